import PyProof.Rows.All
import Wide.All
import OpenK.AllK
import Wide.FinOn
import PySem.Challenge.RW_tc0060_01
set_option Elab.async false
set_option maxRecDepth 100000
set_option linter.all false
set_option tactic.hygienic false
namespace Mine
@[elab_as_elim] theorem rwl {T:Sort u} {p:T->Prop} {a b:T} (h:a=b) (x:p b):p a:=h▸x
@[elab_as_elim] theorem lwr {T:Sort u} {p:T->Prop} {a b:T} (h:a=b) (x:p a):p b:=h▸x
theorem t2 {a b c:Nat} (h:a<=b) (k:Nat.ble b c=true):a<=c:=Nat.le_trans h (Nat.le_of_ble_eq_true k)
theorem t3 {a b c d:Nat} (h:a<=c) (e:b=d) (k:Nat.ble c d=true):a<=b:=Nat.le_trans (t2 h k) (Nat.le_of_eq e.symm)
theorem ml {a b c:Nat} (k:Nat.ble 1 b=true) (l:Nat.ble b c=true):a%b<c:=Nat.lt_of_lt_of_le (Nat.mod_lt a (Nat.le_of_ble_eq_true k)) (Nat.le_of_ble_eq_true l)
theorem s1 {a b c:Nat} (h:b<c-a-1):a+1+b<c:=Nat.lt_of_le_of_lt (Nat.le_of_eq (Nat.add_comm (a+1) b)) (Nat.add_lt_of_lt_sub (show b<c-(a+1) from h))
theorem mn {a b:Nat}:a-b+min b a=a:=(congrArg (a-b + ·) (Nat.min_comm b a)).trans (Nat.sub_add_min_cancel a b)
theorem m2 {a:Nat} (h : ¬a%2=0):a-a%2<a:=Nat.sub_lt (Nat.lt_of_lt_of_le (Nat.pos_of_ne_zero h) (Nat.mod_le a 2)) (Nat.pos_of_ne_zero h)
theorem u1 {a b c k:Nat} (h:a+10*(b+k)+200<c):a+10*b+200<c:=Nat.lt_of_le_of_lt (Nat.add_le_add_right (Nat.add_le_add_left (Nat.mul_le_mul_left 10 (Nat.le_add_right b k)) a) 200) h
theorem i63 {a b:Nat} (h:a<=b) (k:Nat.ble b 9223372036854775807=true):(a:Int)<2^63:=Int.ofNat_lt.2 (Nat.lt_succ_of_le (t2 h k))
theorem i62 {a b:Nat} (h:a<=b) (k:Nat.ble b 4611686018427387903=true):(a:Int)<2^62:=Int.ofNat_lt.2 (Nat.lt_succ_of_le (t2 h k))
theorem na {a:Int} (h:0<=a/\a<100):Int.natAbs a<100:=by lia
theorem q8 {d:Nat} (h:d+4<=12*(8-0)):d<=92:=Nat.le_of_add_le_add_right (show d+4<=92+4 from h)
theorem H263 {a b:Nat} (h0:b<a) (h1 : ¬a=b+1):0<a-b-1:=(Nat.sub_pos_of_lt (Nat.lt_of_le_of_ne h0 (Ne.symm h1)):0<a-(b+1))
theorem H345 {a b c d:Nat} (h1:c<d-b-1):a+(b+1+c-b)+(d-(b+1+c))=a+(d-b):=(Nat.add_assoc _ _ _).trans (congrArg (a + ·) ((Nat.add_comm _ _).trans (Nat.sub_add_sub_cancel (Nat.le_of_lt (s1 h1)) (Nat.le_trans (Nat.le_add_right b 1) (Nat.le_add_right _ c)))))
theorem H346 {a b c d:Nat} (h1:d<b-c-1):a+(b-(c+1+d))+(c+1+d-c)=a+(b-c):=(Nat.add_assoc _ _ _).trans (congrArg (a + ·) (Nat.sub_add_sub_cancel (Nat.le_of_lt (s1 h1)) (Nat.le_trans (Nat.le_add_right c 1) (Nat.le_add_right _ d))))
theorem H339 {a b c d:Nat} (h1:b<d-a-1) (h2:d-a<=c+1):a+1+b-a<=c:=Nat.le_trans (Nat.le_of_eq ((congrArg (·- a) (Nat.add_assoc a 1 b)).trans ((Nat.add_sub_cancel_left a (1+b)).trans (Nat.add_comm 1 b)))) (Nat.le_trans h1 (Nat.pred_le_pred h2))
theorem H340 {a b c d:Nat} (h0:a-b<=d+1):a-(b+1+c)<=d:=Nat.le_trans (Nat.sub_le_sub_left (Nat.le_add_right (b+1) c) a) (Nat.pred_le_pred h0)
theorem H291 {a b c d f:Nat} (h1:d-b<=c+1) (h4:f<d-b-1) (h5:b+1+f=a):a-b<=c:=h5▸H339 h4 h1
theorem H293 {a b c d e:Nat} (h0:a-d<=c+1) (h1:d+1+e=b):a-b<=c:=h1▸H340 h0
theorem H295 {a b c:Nat} (h0:a+4<=12*(b-c)) (h1:b<=8):a<=200:=Nat.le_trans (Nat.le_add_right a 4) (Nat.le_trans h0 (Nat.le_trans (Nat.mul_le_mul_left 12 (Nat.le_trans (Nat.sub_le b c) h1)) (Nat.le_of_ble_eq_true rfl)))
theorem H86 {a b c d:Nat} (h0:a+10*0+200<d) (h1:b<=64):a+min b c<d:=Nat.lt_of_le_of_lt (Nat.add_le_add_left (Nat.le_trans (Nat.min_le_left b c) (t2 h1 rfl)) a) (show a+200<d from h0)
theorem H87 {a b c d:Nat} (h0:a+10*0+200<d) (h1:c<=64):a+1+min b c<d:=Nat.lt_of_le_of_lt (Nat.add_le_add_left (Nat.le_trans (Nat.min_le_right b c) h1) (a+1)) (Nat.lt_of_le_of_lt (Nat.le_trans (Nat.le_of_eq (Nat.add_assoc a 1 64)) (Nat.add_le_add_left (Nat.le_of_ble_eq_true rfl) a)) (show a+200<d from h0))
theorem H368 {a:Nat}:Int.toNat (-1+(↑a:Int))=a-1:=(congrArg Int.toNat (Int.add_comm (-1) a)).trans (Int.toNat_sub a 1)
theorem H38 {a b c:Nat} (h0:a+10*c+200<b):a<=b-10*c-201:=Nat.le_sub_of_add_le (Nat.le_sub_of_add_le (Nat.le_trans (Nat.le_of_eq (Nat.add_right_comm a 201 (10*c))) h0))
theorem H40 {a b c:Nat} (h0:c+10*b+200<a):a-10*b-201+10*b+200<a:=Nat.le_of_eq ((Nat.add_assoc _ (10*b) 201).trans ((congrArg (·+ (10*b+201)) (Nat.sub_sub a (10*b) 201)).trans (Nat.sub_add_cancel (Nat.le_trans (Nat.le_add_left (10*b+201) c) (Nat.le_trans (Nat.le_of_eq (Nat.add_assoc c (10*b) 201).symm) h0)))))
theorem H37 {a b c:Nat} (h0:a+c<b):a<=b-c-1:=Nat.le_sub_of_add_le (Nat.le_sub_of_add_le (Nat.le_trans (Nat.le_of_eq (Nat.add_right_comm a 1 c)) h0))
theorem H39 {a b c:Nat} (h0:c+b<a):a-b-1+b<a:=Nat.le_of_eq (Nat.sub_add_cancel (show b+1<=a from Nat.le_trans (Nat.succ_le_succ (Nat.le_add_left b c)) h0))
theorem H158 {a b c d e:Nat} (h1:c-a=b+(d+e+1)+1):a+(2+b)<=c:=Nat.add_le_of_le_sub' (Nat.le_of_lt (Nat.lt_of_sub_eq_succ h1)) (Nat.le_trans (Nat.le_trans (Nat.le_of_eq (Nat.add_comm 2 b)) (Nat.succ_le_succ (Nat.add_le_add_left (Nat.succ_le_succ (Nat.zero_le (d+e))) b))) (Nat.le_of_eq h1.symm))
theorem H155 {a b c d:Nat} (h0:0<b) (h1:c-a=b+d):a+b<=c:=have k:b<=c-a:=Nat.le_trans (Nat.le_add_right b d) (Nat.le_of_eq h1.symm);Nat.add_le_of_le_sub' (Nat.le_of_lt (Nat.lt_of_sub_pos (Nat.lt_of_lt_of_le h0 k))) k
theorem H24 {a b c d:Nat} (h0:a=d+3) (h1:d+10*(b+1)+200<c):a+10*b+200<c:=h0▸Nat.lt_of_le_of_lt (Nat.add_le_add_right (Nat.le_trans (Nat.le_of_eq (Nat.add_right_comm d 3 (10*b))) (Nat.add_le_add_left (Nat.le_of_ble_eq_true rfl:3<=10) (d+10*b))) 200) h1
theorem H95 {a b c d:Nat} (h0:a<=d+5) (h1:d+10*(b+2)+200<c):a+10*(b+1)+200<c:=Nat.lt_of_le_of_lt (Nat.add_le_add_right (Nat.le_trans (Nat.add_le_add_right (Nat.le_trans h0 (Nat.add_le_add_left (Nat.le_of_ble_eq_true rfl:5<=10) d)) (10*(b+1))) (Nat.le_of_eq (Nat.add_right_comm d 10 (10*(b+1))))) 200) h1
theorem H102 {a b c:Nat} (h0:a+10*c+200<b):a+10*0+200<b:=Nat.lt_of_le_of_lt (Nat.add_le_add_right (Nat.le_add_right a (10*c)) 200) h0
theorem H237 {a:Nat} {b:Int}:((↑a:Int)+b)%1000000=(↑(Int.toNat (((↑a:Int)+b)%1000000)):Int):=(Int.toNat_of_nonneg (Int.emod_nonneg _ (by decide:(1000000:Int)≠0))).symm
theorem H232 {a:Nat} {b:Int}:Int.toNat (((↑a:Int)+b)%1000000)<1000000:=(Int.toNat_lt (Int.emod_nonneg _ (by decide:(1000000:Int)≠0))).2 (Int.emod_lt_of_pos _ (by decide:(0:Int)<1000000))
theorem H231 {a:Int}:0<=a%1000000/\a%1000000<1000000000:=⟨Int.emod_nonneg _ (by decide:(1000000:Int)≠0),Int.lt_of_lt_of_le (Int.emod_lt_of_pos _ (by decide:(0:Int)<1000000)) (by decide)⟩
theorem H371 {a:Nat}:a-(a-1)<=1000:=match a with|0=>Nat.le_of_ble_eq_true rfl|a+1=>t2 (Nat.le_of_eq (Nat.add_sub_cancel_left a 1)) rfl
theorem H54 {a b c:Nat} (h0:1<=a) (h1:a+(c+1)=b):a-1+1<b:=h1▸Nat.lt_of_le_of_lt (Nat.le_of_eq (Nat.sub_add_cancel h0)) (Nat.lt_add_of_pos_right (Nat.succ_pos c))
theorem H53 {a b c:Nat} (h1:a+(c+1)=b):a-1<b:=h1▸Nat.lt_of_le_of_lt (Nat.sub_le a 1) (Nat.lt_add_of_pos_right (Nat.succ_pos c))
theorem H52 {a b c:Nat} (h0:a+(c+1)=b):a<b:=h0▸Nat.lt_add_of_pos_right (Nat.succ_pos c)
theorem H219 {a b c:Nat} (h1:a<=c) (h2:b<=c):a+(b-a)<=c:=(Nat.le_total a b).elim (fun k=>Nat.le_trans (Nat.le_of_eq (Nat.add_sub_cancel' k)) h2) (fun k=>(Nat.sub_eq_zero_of_le k).symm▸h1)
theorem H296 {a b:Nat} (h1 : ¬a=b+1):a-b≠1:=fun e=>h1 ((Nat.eq_add_of_sub_eq (Nat.le_of_lt (Nat.lt_of_sub_eq_succ e)) e).trans (Nat.add_comm 1 b))
theorem H216 {a b:Nat}:Int.toNat ((↑a:Int)+1*(↑b:Int))=a+b:=congrArg (fun x:Int=>Int.toNat ((a:Int)+x)) (Int.one_mul (b:Int))
theorem H251 {a:Nat} (h0:a%2=0) (h1:a<8):a+1<8:=Nat.lt_of_le_of_ne h1 (fun e=>absurd (Nat.succ.inj e▸h0:7%2=0) (by decide))
theorem H317 {a:Nat} (h0:a<4):2*a<8:=(Nat.mul_lt_mul_left (Nat.le_of_ble_eq_true rfl)).2 h0
theorem H93 {a b c:Nat} (h0:a+(b+2)<c):a+1+(b+1)<c:=Nat.lt_of_le_of_lt (Nat.le_of_eq (Nat.add_right_comm a 1 (b+1))) h0
theorem H23 {a b c:Nat} (h0:a+(b+1)<c):a+1+b<c:=Nat.lt_of_le_of_lt (Nat.le_of_eq (Nat.add_right_comm a 1 b)) h0
theorem H370 {a b c d:Nat} (h0:a<=d+c) (h1:d<=b+1):a<=b+(c+1):=Nat.le_trans h0 (Nat.le_trans (Nat.add_le_add_right h1 c) (Nat.le_of_eq (Nat.add_right_comm b 1 c)))
theorem H173 {a b c:Nat} (h0:a<=5) (h1:b<=6*c):1+a+b<=6*(c+1):=Nat.le_trans (Nat.add_le_add (Nat.add_le_add_left h0 1) h1) (Nat.le_of_eq (Nat.add_comm (1+5) (6*c)))
theorem H376 {a b c:Nat} (h0:a<=c+1) (h1:c+(b+1)<=30):a+b<=30:=Nat.le_trans (Nat.add_le_add_right h0 b) (Nat.le_trans (Nat.le_of_eq (Nat.add_right_comm c 1 b)) h1)
theorem H262 {a b c:Nat} (h0:a<=8) (h1:b=c+1):a+4<=12*(b-c):=Nat.le_trans (Nat.add_le_add_right h0 4) (Nat.mul_le_mul_left 12 (Nat.le_of_eq ((congrArg (·- c) h1).trans (Nat.add_sub_cancel_left c 1)).symm))
theorem H162 {a b:Nat}:a+1+b+1=a+(2+b):=(congrArg Nat.succ (Nat.add_right_comm a 1 b)).trans (congrArg (a + ·) (Nat.add_comm b 2))
theorem H333 {a:Nat} : ¬97+a/2=92 /\ ¬97+a/2=34:=by lia
theorem H314 {a:Nat}:256+(↑a:Int)>255:=by lia
theorem H212 {a b:Nat}:Int.toNat (-1-(↑a:Int)+(↑b:Int))=b-1-a:=(congrArg Int.toNat (show (-1-(a:Int)+(b:Int))=(b:Int)-((1+a:Nat):Int) by omega)).trans ((Int.toNat_sub b (1+a)).trans (Nat.sub_sub b 1 a).symm)
theorem H400 {a b c d:Nat} (h:a<=b+c) (k:c<=d) (l:b+d<=2000000):a<=16777216:=t2 (Nat.le_trans h (Nat.le_trans (Nat.add_le_add_left k b) l)) rfl
theorem H401 {d i:Nat} (h:i<d):d+1-(i+1)<d+1-i:=Nat.sub_lt_sub_left (Nat.lt_succ_of_lt h) (Nat.lt_succ_self i)
theorem H402 {o z i x:Nat} (h:o<=i*1000) (k:z<=1000) (l:i<x) (m:x<=1000):o+z<=2000000:=t2 (Nat.add_le_add (Nat.le_trans h (Nat.mul_le_mul_right 1000 (Nat.le_trans (Nat.le_of_lt l) m))) k) rfl
theorem H403 {o y z i:Nat} (h:o<=i*1000) (k:y<=z) (l:z<=1000):o+y<=(i+1)*1000:=Nat.le_trans (Nat.add_le_add h (Nat.le_trans k l)) (Nat.le_of_eq (Nat.succ_mul i 1000).symm)
theorem H404 {x i n:Nat} (h:x-i=n+1):x-(i+1)=n:=congrArg Nat.pred h
theorem H405 {P:Prop} {a b:Nat} (h:a<=b) (k:a=b+1):P:=absurd (Nat.le_trans (Nat.le_of_eq k.symm) h) (Nat.not_succ_le_self b)
theorem H406 {i:Int} {d:Nat} (h0:0<=i) (h1:i<=d) (h2:d<=1000) : -9223372036854775808<=i/\i<9223372036854775808:=⟨Int.le_trans (by decide) h0,Int.lt_of_le_of_lt h1 (Int.ofNat_lt.2 (Nat.lt_of_le_of_lt h2 (Nat.le_of_ble_eq_true rfl)))⟩
theorem H407 {b:Int} (h0:0<=b) (h1:b<=1000) : -9223372036854775808<=b/\b<9223372036854775808:=⟨Int.le_trans (by decide) h0,Int.lt_of_le_of_lt h1 (by decide)⟩
theorem H408 {i:Int} {v d:Nat} (k:v=d) (h:i<=d):min i.toNat v=i.toNat:=Nat.min_eq_left (k▸Int.toNat_le.2 h)
theorem G400 {n:Nat} {p v:Int} (hp:0<=p/\p<=n*1000000000) (h0:0<=v) (h1:v<1000000000):0<=p+v/\p+v <= ↑(n+1)*1000000000:=⟨Int.add_nonneg hp.1 h0,Int.le_trans (Int.add_le_add hp.2 (Int.le_of_lt h1)) (Int.le_of_eq (Int.add_mul (n:Int) 1 1000000000).symm)⟩
theorem H409 {j v i:Nat} (h:j<v) (k:i=v) (l:i<=1000):j<1000:=Nat.lt_of_lt_of_le h (k▸l)
theorem H410 {x:Int} (h0:0<=x) (h1:x<1000000000) : -2^63<=x/\x<2^63:=⟨Int.le_trans (by decide) h0,Int.lt_trans h1 (by decide)⟩
theorem H501 {p:Int} {j:Nat} (h0:0<=p) (h1:p <= ↑(j+1)*1000000000) (h2:j<1000) : -2^63<=p/\p<2^63:=⟨Int.le_trans (by decide) h0,Int.lt_of_le_of_lt h1 (Int.lt_of_le_of_lt (Int.mul_le_mul_of_nonneg_right (Int.ofNat_le.2 h2) (by decide)) (by decide:(1000:Int)*1000000000<2^63))⟩
theorem H411 {i:Int} (h0:0<=i) (h1:i<100):i.toNat<100:=(Int.toNat_lt h0).2 h1
theorem H412 {a:Int} (h : -2^62<a) : -2^64<a:=Int.lt_trans (by decide) h
theorem G413 {a:Int} {m:Nat} (h : -(m:Int)<a) (k:a<m):a.natAbs<m:=match a,h,k with | .ofNat n,_,k=>Int.ofNat_lt.1 k | .negSucc n,h,_=>Int.ofNat_lt.1 (Int.lt_of_neg_lt_neg (show -(m:Int) < -((n+1:Nat):Int) from h))
theorem H413 {a:Int} (h : -2^62<a) (k:a<2^62):a.natAbs<2^62:=G413 (m:=4611686018427387904) h k
theorem H414 {l x:Nat} (h:l<62) : ¬ l/30+1>x+150:=Nat.not_lt_of_le (Nat.le_trans (Nat.succ_le_succ (Nat.div_le_div_right (Nat.le_of_lt h))) (Nat.le_trans (Nat.le_of_ble_eq_true rfl:62/30+1<=150) (Nat.le_add_left 150 x)))
theorem H415 {n i:Int} (h:0<=i+n) : -n<=i:=Int.le_of_sub_nonneg ((Int.sub_neg i n).symm▸h)
theorem H416 {a b c:Nat} (h:a=b+1) (k:b=c):a=c+1:=k▸h
theorem H417 {n:Int}:n - ↑n.toNat<=0:=Int.sub_nonpos_of_le (Int.self_le_toNat n)
theorem H418 {n:Int}:(n-0-1)/1+1=n:=(congrArg (·+1) ((Int.ediv_one _).trans (congrArg (·-1) (Int.sub_zero n)))).trans (Int.sub_add_cancel n 1)
theorem H419 {n:Int} (q : ¬ 0<n) (h:0<=n):0=n:=Int.le_antisymm h (Int.not_lt.1 q)
theorem H420 {i:Int} {n:Nat} (h:i<0):(i+n).toNat<=n:=Int.toNat_le.2 (Int.le_trans (Int.add_le_add_right (Int.le_of_lt h) n) (Int.le_of_eq (Int.zero_add _)))
theorem H421 {i:Int} {n:Nat} (h:i<0):max 0 (min (i+(n:Int)) (n:Int)) = ↑(i+(n:Int)).toNat:=(congrArg (max 0) (Int.min_eq_left (Int.le_trans (Int.add_le_add_right (Int.le_of_lt h) n) (Int.le_of_eq (Int.zero_add _))))).trans ((Int.max_comm 0 _).trans (Int.ofNat_toNat _).symm)
theorem H422 {i:Int} {n:Nat} (h : ¬ i<0):max 0 (min i (n:Int)) = ↑(min i.toNat n):=match i,Int.eq_ofNat_of_zero_le (Int.not_lt.1 h) with|_,⟨k,rfl⟩=>(congrArg (max 0) (Lean.Omega.Int.ofNat_min k n).symm).trans (Int.max_eq_right (Int.natCast_nonneg _))
theorem H423 {a b:Nat}:(((b:Int)-a+1-1)/1).toNat=b-a:=(congrArg Int.toNat ((Int.ediv_one _).trans (Int.add_sub_cancel _ 1))).trans (Int.toNat_sub b a)
theorem H424 {a b:Nat} (h : ¬ (a:Int)<b):Int.toNat 0=b-a:=(Nat.sub_eq_zero_of_le (Int.ofNat_le.1 (Int.not_lt.1 h))).symm
theorem H425 {s c d w z:Nat} (h:s=c-d) (k:c<=w) (l:w<=z):s<=z:=h▸Nat.le_trans (Nat.sub_le c d) (Nat.le_trans k l)
theorem H426 {c d w:Nat} (h:c-d=w) (k:c<=w):c=w:=Nat.le_antisymm k (Nat.le_trans (Nat.le_of_eq h.symm) (Nat.sub_le c d))
theorem H427 {c d w:Nat} (h:c=w) (k:c-d=w) (z : ¬ w=0):d=0:=match d,k with|0,_=>rfl|d+1,k=>absurd (k.trans h.symm) (Nat.ne_of_lt (Nat.sub_lt (Nat.pos_of_ne_zero (h▸z)) (Nat.succ_pos d)))
theorem H428 {a i w:Nat} (h:a<=i) (k:i<=w) (l:w<=500):a<=1000:=t2 (Nat.le_trans (Nat.le_trans h k) l) rfl
theorem H429 {a b i c:Nat} (h:a<=b+1) (k:b<=i):a<=i+(2+c):=Nat.le_trans h (Nat.add_le_add k (Nat.le_trans (Nat.le_of_ble_eq_true rfl) (Nat.le_add_right 2 c)))
theorem H430 {a b w:Nat} (h:a<=w) (k:b<=w+1) (l:w<=500):a+b<=1048576:=t2 (Nat.add_le_add (Nat.le_trans h l) (Nat.le_trans k (Nat.succ_le_succ l))) rfl
theorem H431 {f x:Nat} (h:(x:Int)>f):(x:Int) = ↑(max f x):=congrArg _ (Nat.max_eq_right (Nat.le_of_lt (Int.ofNat_lt.1 h))).symm
theorem H432 {f x:Nat} (h : ¬ (x:Int)>f):(f:Int) = ↑(max f x):=congrArg _ (Nat.max_eq_left (Int.ofNat_le.1 (Int.not_lt.1 h))).symm
theorem H433 {m r:Nat} (h:m=4-(r+1)):m<=3:=h▸Nat.sub_le_sub_left (Nat.succ_pos r) 4
theorem H434 {r:Nat} (h:r+1<=4):4-r=4-(r+1)+1:=(Nat.succ_pred_eq_of_pos (Nat.sub_pos_of_lt h)).symm
theorem H435 {m r:Nat} (h:m=4-(r+1)+1) (k:r+1<=4):m=4-r:=h.trans (H434 k).symm
theorem H436 {a k:Nat} (h:a<=6*k) (l:k<=16):a+k<=1048576:=t2 (Nat.add_le_add (Nat.le_trans h (Nat.mul_le_mul_left 6 l)) l) rfl
theorem H437 {a b:Nat}:min a 8<=16+b:=Nat.le_trans (Nat.min_le_right a 8) (Nat.le_trans (Nat.le_of_ble_eq_true rfl) (Nat.le_add_right 16 b))
theorem H438 {k:Nat} : -1-(k:Int)<0:=Int.lt_of_le_of_lt (Int.sub_le_self (-1) (Int.natCast_nonneg k)) (by decide)
theorem H439 {x n:Int} (h:x<0):x+n<n:=Int.lt_of_lt_of_le (Int.add_lt_add_right h n) (Int.le_of_eq (Int.zero_add n))
theorem H441 {a b:Nat} : -1-(a:Int)+b=b-((1+a:Nat):Int):=(Int.add_comm _ _).trans (congrArg ((b:Int) + ·) (Int.neg_add (a:=1) (b:=(a:Int))).symm)
theorem H440 {k n:Nat} (h:k<n):0 <= -1-(k:Int)+n:=(H441 (a:=k) (b:=n)).symm▸Int.sub_nonneg_of_le (Int.ofNat_le.2 (Nat.le_trans (Nat.le_of_eq (Nat.add_comm 1 k)) h))
theorem H442 {k d z:Nat} (e:z=100000) (l:d<=z) (h:k<d) : -2^63 <= -1-(k:Int):=Int.le_trans (by decide : -2^63 <= -1-(100000:Int)) (Int.sub_le_sub_left (Int.ofNat_le.2 (Nat.le_trans (Nat.le_trans (Nat.le_of_lt h) l) (Nat.le_of_eq e))) (-1))
theorem H443 {k:Nat} : -1-(k:Int)<2^63:=Int.lt_trans H438 (by decide)
theorem H444 {b r z:Nat} (h:b+(r+1)<=z):b+1+r<=z:=Nat.le_trans (Nat.le_of_eq (Nat.add_right_comm b 1 r)) h
theorem H445 {l:Nat} (h:l<64):1+l<=500:=Nat.le_trans (Nat.le_of_eq (Nat.add_comm 1 l)) (t2 h rfl)
theorem H446 {f c:Nat} (h:f<=0+c) (k:c=8):f<2*20:=Nat.lt_of_le_of_lt (k▸h) (Nat.le_of_ble_eq_true rfl)
theorem H447 {f c r:Nat} (y:r<=f) (h:f<=0+c) (k:c=8):r<=30:=t2 (Nat.le_trans y (k▸h)) rfl
theorem H448 {g:Nat} (h:g<=2):5-((2*g:Nat):Int) = ↑(5-2*g):=(Int.ofNat_sub (Nat.le_trans (Nat.mul_le_mul_left 2 h) (Nat.le_of_ble_eq_true rfl))).symm
theorem H449 {a:Int} {b:Nat} (h:0<b):a-((b-1:Nat):Int)=a-b+1:=match b,h with|b+1,_=>((congrArg (·+1) (Int.sub_sub a b 1).symm).trans (Int.sub_add_cancel _ 1)).symm
theorem H450 {b:Int} {a:Nat} (h:0<a):((a-1:Nat):Int)-b=a-b-1:=match a,h with|a+1,_=>((Int.add_right_comm _ (-b) (-1)).trans (congrArg (·- b) (Int.add_sub_cancel (a:Int) 1))).symm
theorem H451 {a b:Int}:a+1-b=a-b+1:=Int.add_right_comm a 1 (-b)
theorem H453 {p q x:Nat} (h:(p:Int)-q=((0:Nat):Int)-((0:Nat):Int)+x-x) (k:0<p):0<q:=(Int.ofNat.inj (Int.eq_of_sub_eq_zero (h.trans (Int.add_sub_cancel _ _))))▸k
theorem H454 {a:Nat} (h:a%2=0) : ¬ (a+1)%2=0:=fun e=>absurd ((congrArg (fun x=>(x+1%2)%2) h).symm.trans ((Nat.add_mod a 1 2).symm.trans e)) (by decide : ¬ (0+1%2)%2=0)
theorem H455 {a c:Nat}:min a c+(c-a+1)=c+1:=congrArg Nat.succ ((Nat.add_comm _ _).trans mn)
theorem H456 {b r:Nat} (h:b+2*(r+1)=8):b+1+1+2*r=8:=(Nat.add_right_comm b 2 (2*r)).trans h
theorem H457 {x y z:Nat} (h:x<=5) (k:y<=1) (l:z=1):x+y+z<=8:=Nat.le_trans (Nat.add_le_add (Nat.add_le_add h k) (Nat.le_of_eq l)) (Nat.le_of_ble_eq_true rfl)
theorem H458 {f l:Nat} (h:f<l):0+4<=12*(l-f):=Nat.mul_le_mul (Nat.le_of_ble_eq_true rfl:4<=12) (Nat.sub_pos_of_lt h)
theorem H459 {x y z:Nat} (h:x<=5) (k:y<=1) (l:z=100000):x+y+1<=z:=t3 (Nat.succ_le_succ (Nat.add_le_add h k)) l.symm.symm rfl
theorem H463 {P:Prop} {f l:Nat} (h:l-f<=0) (k:f<l):P:=absurd (Nat.sub_pos_of_lt k) (Nat.not_lt_of_le h)
theorem H464 {f l:Nat} (h:f<l):0<f+2*l:=Nat.lt_of_lt_of_le (Nat.lt_of_le_of_lt (Nat.zero_le f) h) (Nat.le_trans (Nat.le_mul_of_pos_left l (by decide)) (Nat.le_add_left _ f))
theorem H465 {c:Nat}:c-c%2=2*(c/2):=Nat.sub_eq_of_eq_add (Nat.div_add_mod c 2).symm
theorem H467 {f q l:Nat} (h:q<l-f-1) (k:l<=8):f+1+q<=8:=Nat.le_trans (Nat.le_of_lt (s1 h)) k
theorem H466 {f q l c:Nat} (e:f+1+q=c) (h:q<l-f-1) (k:l<=8):c<=8:=e▸H467 h k
theorem H468 {x:Nat} (h:x<=2):max x 0+1<=64:=t2 (Nat.succ_le_succ (Nat.max_le.2 ⟨h,Nat.zero_le 2⟩)) rfl
theorem H469 {a b i z:Nat} (h:a<=b) (k:b+1<=i) (l:i<=5000) (e:z=100000):a<=z:=t3 (Nat.le_trans (Nat.le_trans h (Nat.le_trans (Nat.le_succ _) k)) l) e rfl
theorem H470 {c:Nat} : ¬ (7:Int)=256+c /\ ¬ (31:Int)=256+c:=have f {k:Nat} (h:Nat.ble k 255=true) : ¬ (k:Int)=256+c:=fun e=>absurd (Nat.le_add_right 256 c) ((Int.ofNat.inj e:k=256+c)▸Nat.not_le_of_lt (Nat.succ_le_succ (Nat.le_of_ble_eq_true h)));⟨f rfl,f rfl⟩
theorem H471 {q:Nat}:(-3+((q+3:Nat):Int)).toNat=q:=(congrArg Int.toNat (Int.add_comm (-3) _)).trans (Int.toNat_sub (q+3) 3)
theorem H472 {p:Int}:255-256*(p%2)<256:=Int.lt_of_le_of_lt (Int.sub_le_self 255 (Int.mul_nonneg (by decide) (Int.emod_nonneg _ (by decide)))) (by decide)
theorem H473 {i a b z:Nat} (h:i+(a+b)<=z):i+a<=z:=Nat.le_trans (Nat.add_le_add_left (Nat.le_add_right a b) i) h
theorem H474 {i a b z:Nat} (h:i+(a+b)<=z):i+a+b<=z:=Nat.le_trans (Nat.le_of_eq (Nat.add_assoc i a b)) h
theorem H475 {f m l c:Nat} (h:f<=m) (k:m<=l) (q:l<=c):f<=min m c:=Nat.le_min.2 ⟨h,Nat.le_trans h (Nat.le_trans k q)⟩
theorem H476 {c:Nat} (h : ¬ c%2=1):c%2=0:=(Nat.mod_two_eq_zero_or_one c).resolve_right h
theorem H477 {c:Nat} (h:c%2=1):c=2*(c/2)+1:=(Nat.div_add_mod c 2).symm.trans (congrArg (2*(c/2) + ·) h)
theorem H478 {c:Nat} (h:c%2=0):c=2*(c/2):=(Nat.div_add_mod c 2).symm.trans (congrArg (2*(c/2) + ·) h)
theorem H479 {c:Nat} (h:c%2=1):c-1=2*(c/2):=congrArg Nat.pred (H477 h)
theorem H480 {v f q l:Nat} (h:v<=f+1+q) (k:q<l-f-1) (j:l<=8):v<=100:=t2 (Nat.le_trans h (H467 k j)) rfl
theorem H481 {s t:Nat} (h:s<=t) (k:t+4<=12*(8-0)):0+s<=5000:=Nat.le_trans (Nat.le_of_eq (Nat.zero_add s)) (t2 (Nat.le_trans h (q8 k)) rfl)
theorem H482 {w s t z:Nat} (e:w=s+1) (h:s<=t) (k:t+4<=12*(8-0)) (f:z=100000):w<=z:=t3 (Nat.le_trans (Nat.le_of_eq e) (Nat.succ_le_succ (Nat.le_trans h (q8 k)))) f rfl
theorem H483 {c:Nat} (h:(c+1)%2=0) (k:c%2=0):c+1+1=c:=absurd h (H454 k)
theorem H485 {c:Nat} (h : ¬ c%2=0):c-1≠c:=Nat.ne_of_lt (Nat.sub_lt (Nat.pos_of_ne_zero (fun e=>h (congrArg (·% 2) e))) (Nat.succ_pos 0))
theorem H484 {c:Nat} (h : ¬ (c-1)%2=0) (k : ¬ c%2=0):c-1-1=c:=match c,h,k with|0,_,_=>rfl|c+1,h,k=>absurd ((Nat.add_mod c 1 2).trans (congrArg (fun x=>(x+1%2)%2) ((Nat.mod_two_eq_zero_or_one c).resolve_left h))) k
theorem H486 {c:Nat} (h : ¬ c%2=0):c-c%2=c-1:=congrArg (c - ·) ((Nat.mod_two_eq_zero_or_one c).resolve_left h)
theorem H487 {r n:Nat} (q:1<r) (h:r<2*(n+1)):min (r-1) r-1<2*n:=Nat.lt_of_le_of_lt (Nat.sub_le_sub_right (Nat.min_le_left _ _) 1) (match r,q,h with|r+2,_,h=>Nat.lt_of_succ_lt_succ (Nat.lt_of_succ_lt_succ h))
theorem H488 {r z:Nat} (h:r<=z):min (r-1) r-1<=z:=Nat.le_trans (Nat.le_trans (Nat.sub_le _ 1) (Nat.min_le_right _ _)) h
theorem H489 {o i j z:Nat} (h:o<=100) (e:z=100000):o-i+(min i o-j)<=z:=t3 (Nat.add_le_add (Nat.le_trans (Nat.sub_le o i) h) (Nat.le_trans (Nat.sub_le _ j) (Nat.le_trans (Nat.min_le_right i o) h))) e rfl
theorem H490 {o i j z:Nat} (h:o<=100) (e:z=100000):o-i+(min i o-j)+min j o<=z:=t3 (Nat.add_le_add (Nat.add_le_add (Nat.le_trans (Nat.sub_le o i) h) (Nat.le_trans (Nat.sub_le _ j) (Nat.le_trans (Nat.min_le_right i o) h))) (Nat.le_trans (Nat.min_le_right j o) h)) e rfl
theorem H492 {r t z:Nat} (h:r<=z):r-t+min t r<=z:=Nat.le_trans (Nat.le_of_eq mn) h
theorem H491 {r t z:Nat} (h:r<=30) (e:z=100000):r-t+min t r<=z:=t3 (H492 h) e rfl
theorem H493 {x:Nat} (h : ¬ (2+x)%2=0) (k:x%2=0):2+(x+1)=2+x-1:=absurd ((Nat.add_mod_left 2 x).trans k) h
theorem H494 {x:Nat} (h:(2+x)%2=0) (k : ¬ x%2=0):2+(x-1)=2+x+1:=absurd ((Nat.add_mod_left 2 x).symm.trans h) k
theorem H495 {x:Nat} (k : ¬ x%2=0):2+(x-1)=2+x-1:=match x,k with|x+1,_=>rfl|0,k=>absurd rfl k
theorem H497 {P:Prop} {x k:Nat} (e:k=2+x) (h:Nat.ble k 1=true):P:=absurd (Nat.le_add_right 2 x) (e▸Nat.not_le_of_lt (Nat.succ_le_succ (Nat.le_of_ble_eq_true h)))
theorem H498 {x r:Nat} (h:x<=2*r):2+x<=2*(r+1):=Nat.le_trans (Nat.le_of_eq (Nat.add_comm 2 x)) (Nat.add_le_add_right h 2)
theorem H499 {o:Nat}:o<=o-1+1:=match o with|0=>Nat.zero_le _|_+1=>Nat.le_refl _
theorem G500 {P:Prop} {o f w n:Nat} (h:o<=f+w) (q:n<o) (e:w=n) (z:f=0):P:=absurd q (Nat.not_lt_of_le (Nat.le_trans h (Nat.le_of_eq ((congrArg (·+ w) z).trans ((Nat.zero_add w).trans e)))))
theorem H502 {f x y:Nat} (h:f<=2) (k:x<=200) (e:y=100000):f+x+1<=y:=t3 (Nat.succ_le_succ (Nat.add_le_add h k)) e rfl
theorem H503 {f x y z:Nat} (h:f<=2) (k:x<=200) (l:y<=200) (e:z=100000):f+(x+1)+y<=z:=t3 (Nat.add_le_add (Nat.add_le_add h (Nat.succ_le_succ k)) l) e rfl
theorem H504 {f x y z:Nat} (h:f<=2) (k:x<=200) (l:y<=200) (e:z=100000):f+(x+(y+1))+1<=z:=t3 (Nat.succ_le_succ (Nat.add_le_add h (Nat.add_le_add k (Nat.succ_le_succ l)))) e rfl
theorem G501 {p A y B z f m l:Nat} (hp:p<=2) (hy:y=1) (hz:z=1) (i:A+4<=12*(l-m)) (j:B+4<=12*(m-f)) (k:f<=m) (q:m<=l):p+(A+y+B)+z+4<=12*(l-f):=by subst hy hz;have:=Nat.add_le_add i j;refine Nat.le_trans (?_:_<=A+4+(B+4)) (Nat.le_trans this (Nat.le_of_eq ((Nat.mul_add 12 _ _).symm.trans (congrArg (12 * ·) (Nat.sub_add_sub_cancel q k)))));omega
theorem H505 {u a k l:Nat} (h:a+10*(k+1)+200<l) (e:u<=a+10):u+10*k+200<l:=Nat.lt_of_le_of_lt (Nat.add_le_add_right (Nat.le_trans (Nat.add_le_add_right e (10*k)) (Nat.le_of_eq (Nat.add_right_comm a 10 (10*k)))) 200) h
theorem H506 {a u l m d:Nat} (h:a+100<l) (e:u=a+1) (k:m<=d) (j:d<=64):u+m<l:=Nat.lt_of_le_of_lt (Nat.le_trans (Nat.add_le_add (Nat.le_of_eq e) (Nat.le_trans k j)) (Nat.le_trans (Nat.le_of_eq (Nat.add_assoc a 1 64)) (Nat.add_le_add_left (Nat.le_of_ble_eq_true rfl) a))) h
theorem H507 {a b i x y:Nat} (h : ¬ i<y) (k:i<x) (e:b=y) (f:a=x):b<=a:=e▸f▸Nat.le_trans (Nat.le_of_not_lt h) (Nat.le_of_lt k)
theorem H508 {a u n l:Nat} (h:a+100+10*(n+1)<l) (e:u=a+1):u+100+10*n<l:=e▸Nat.lt_of_le_of_lt (Nat.le_trans (Nat.le_of_eq (Nat.add_right_comm (a+1) 100 (10*n))) (Nat.le_trans (Nat.add_le_add_right (Nat.le_trans (Nat.le_of_eq (Nat.add_right_comm a 1 (10*n))) (Nat.add_le_add_left (Nat.le_of_ble_eq_true rfl:1<=10) (a+10*n))) 100) (Nat.le_of_eq (Nat.add_right_comm a (10*(n+1)) 100))) ) h
theorem H509 {v x:Nat} (h : ¬ v=1) (e:v=x) (k:1<=x):2<=v:=Nat.lt_of_le_of_ne (e▸k) (Ne.symm h)
theorem H510 {v x:Nat} (e:v=x) (k:x<64):v<64:=e▸k
theorem H511 {a u l k:Nat} (h:a+10*0+200<l) (e:u=a+k) (j:Nat.ble k 50=true):u+100+10*5<l:=Nat.lt_of_le_of_lt (Nat.le_trans (Nat.add_le_add_right (Nat.le_trans (Nat.le_of_eq e) (Nat.add_le_add_left (Nat.le_of_ble_eq_true j) a)) 150) (Nat.le_of_eq (Nat.add_assoc a 50 150))) h
theorem H512 {u l:Nat} (h:u+100+10*5<l):u+100<l:=Nat.lt_of_le_of_lt (Nat.le_add_right (u+100) 50) h
theorem H513 {a k l:Nat} (h:a+10*(k+4)+200<l):a+10*(k+2)+200<l:=u1 (k:=2) h
theorem H514 {x y z:Nat} (h:z<=5) (k:x<=1) (l:y=1):x+y+z<=8:=Nat.le_trans (Nat.add_le_add (Nat.add_le_add k (Nat.le_of_eq l)) h) (Nat.le_of_ble_eq_true rfl)
theorem H452 {a b c d:Int} (e f:Int):a-b+e-f+c-d=a-b+(c+e)-(d+f):=by omega
theorem G502 {p A y B z f m l:Nat} (hp:p<=2) (hy:y=1) (hz:z=1) (i:A+4<=12*(l-m)) (j:B+4<=12*(m-f)) (k:f<=m) (q:m<=l):p+(B+y+A)+z+4<=12*(l-f):=Nat.le_trans (Nat.le_of_eq (congrArg (p + ·+ z+4) ((congrArg (·+ A) (Nat.add_comm B y)).trans ((Nat.add_comm _ A).trans (Nat.add_assoc A y B).symm)))) (G501 hp hy hz i j k q)
theorem H515 {a b c d:Nat} (e:b=c) (f:a=d):a<b↔0<c-d:=e▸f▸Nat.sub_pos_iff_lt.symm
theorem H516 {u a k l:Nat} (h:a+10*(k+1)+200<l) (e:u=a+1+3+0):u+10*k+200<l:=H505 h (e▸Nat.add_le_add_left (Nat.le_of_ble_eq_true rfl:4<=10) a)
theorem H517 {a u l k:Nat} (h:a+10*0+200<l) (e:u=a+k) (j:Nat.ble k 50=true):u<l:=Nat.lt_of_le_of_lt (Nat.le_add_right u 150) (H511 h e j)
open PySem PySem.W PySem.Calls PyProof.Rows
theorem ea02 {A B:Prop} {G:Prop} (h:A/\B) (k:A->B->G):G:=k h.1 h.2
theorem ea03 {A B C:Prop} {G:Prop} (h:A/\B/\C) (k:A->B->C->G):G:=k h.1 h.2.1 h.2.2
theorem ea04 {A B C D:Prop} {G:Prop} (h:A/\B/\C/\D) (k:A->B->C->D->G):G:=k h.1 h.2.1 h.2.2.1 h.2.2.2
theorem ea05 {A B C D E:Prop} {G:Prop} (h:A/\B/\C/\D/\E) (k:A->B->C->D->E->G):G:=k h.1 h.2.1 h.2.2.1 h.2.2.2.1 h.2.2.2.2
theorem ea06 {A B C D E F:Prop} {G:Prop} (h:A/\B/\C/\D/\E/\F) (k:A->B->C->D->E->F->G):G:=k h.1 h.2.1 h.2.2.1 h.2.2.2.1 h.2.2.2.2.1 h.2.2.2.2.2
theorem ea07 {A B C D E F H:Prop} {G:Prop} (h:A/\B/\C/\D/\E/\F/\H) (k:A->B->C->D->E->F->H->G):G:=k h.1 h.2.1 h.2.2.1 h.2.2.2.1 h.2.2.2.2.1 h.2.2.2.2.2.1 h.2.2.2.2.2.2
theorem ea11 {α:Sort _} {A:α->Prop} {G:Prop} (h : ∃ a,A a) (k : ∀ a,A a->G):G:=h.elim fun a h=>k a h
theorem ea12 {α:Sort _} {A B:α->Prop} {G:Prop} (h : ∃ a,A a/\B a) (k : ∀ a,A a->B a->G):G:=h.elim fun a h=>k a h.1 h.2
theorem ea13 {α:Sort _} {A B C:α->Prop} {G:Prop} (h : ∃ a,A a/\B a/\C a) (k : ∀ a,A a->B a->C a->G):G:=h.elim fun a h=>k a h.1 h.2.1 h.2.2
theorem ea14 {α:Sort _} {A B C D:α->Prop} {G:Prop} (h : ∃ a,A a/\B a/\C a/\D a) (k : ∀ a,A a->B a->C a->D a->G):G:=h.elim fun a h=>k a h.1 h.2.1 h.2.2.1 h.2.2.2
theorem ea17 {α:Sort _} {A B C D E F H:α->Prop} {G:Prop} (h : ∃ a,A a/\B a/\C a/\D a/\E a/\F a/\H a) (k : ∀ a,A a->B a->C a->D a->E a->F a->H a->G):G:=h.elim fun a h=>k a h.1 h.2.1 h.2.2.1 h.2.2.2.1 h.2.2.2.2.1 h.2.2.2.2.2.1 h.2.2.2.2.2.2
theorem ea21 {α β:Sort _} {A:α->β->Prop} {G:Prop} (h : ∃ a b,A a b) (k : ∀ a b,A a b->G):G:=h.elim fun a h=>h.elim fun b h=>k a b h
theorem ea22 {α β:Sort _} {A B:α->β->Prop} {G:Prop} (h : ∃ a b,A a b/\B a b) (k : ∀ a b,A a b->B a b->G):G:=h.elim fun a h=>h.elim fun b h=>k a b h.1 h.2
theorem ea23 {α β:Sort _} {A B C:α->β->Prop} {G:Prop} (h : ∃ a b,A a b/\B a b/\C a b) (k : ∀ a b,A a b->B a b->C a b->G):G:=h.elim fun a h=>h.elim fun b h=>k a b h.1 h.2.1 h.2.2
theorem ea24 {α β:Sort _} {A B C D:α->β->Prop} {G:Prop} (h : ∃ a b,A a b/\B a b/\C a b/\D a b) (k : ∀ a b,A a b->B a b->C a b->D a b->G):G:=h.elim fun a h=>h.elim fun b h=>k a b h.1 h.2.1 h.2.2.1 h.2.2.2
theorem ea26 {α β:Sort _} {A B C D E F:α->β->Prop} {G:Prop} (h : ∃ a b,A a b/\B a b/\C a b/\D a b/\E a b/\F a b) (k : ∀ a b,A a b->B a b->C a b->D a b->E a b->F a b->G):G:=h.elim fun a h=>h.elim fun b h=>k a b h.1 h.2.1 h.2.2.1 h.2.2.2.1 h.2.2.2.2.1 h.2.2.2.2.2
theorem ea32 {α β γ:Sort _} {A B:α->β->γ->Prop} {G:Prop} (h : ∃ a b c,A a b c/\B a b c) (k : ∀ a b c,A a b c->B a b c->G):G:=h.elim fun a h=>h.elim fun b h=>h.elim fun c h=>k a b c h.1 h.2
theorem ea33 {α β γ:Sort _} {A B C:α->β->γ->Prop} {G:Prop} (h : ∃ a b c,A a b c/\B a b c/\C a b c) (k : ∀ a b c,A a b c->B a b c->C a b c->G):G:=h.elim fun a h=>h.elim fun b h=>h.elim fun c h=>k a b c h.1 h.2.1 h.2.2
theorem ea34 {α β γ:Sort _} {A B C D:α->β->γ->Prop} {G:Prop} (h : ∃ a b c,A a b c/\B a b c/\C a b c/\D a b c) (k : ∀ a b c,A a b c->B a b c->C a b c->D a b c->G):G:=h.elim fun a h=>h.elim fun b h=>h.elim fun c h=>k a b c h.1 h.2.1 h.2.2.1 h.2.2.2
theorem ea35 {α β γ:Sort _} {A B C D E:α->β->γ->Prop} {G:Prop} (h : ∃ a b c,A a b c/\B a b c/\C a b c/\D a b c/\E a b c) (k : ∀ a b c,A a b c->B a b c->C a b c->D a b c->E a b c->G):G:=h.elim fun a h=>h.elim fun b h=>h.elim fun c h=>k a b c h.1 h.2.1 h.2.2.1 h.2.2.2.1 h.2.2.2.2
theorem ea41 {α β γ δ:Sort _} {A:α->β->γ->δ->Prop} {G:Prop} (h : ∃ a b c d,A a b c d) (k : ∀ a b c d,A a b c d->G):G:=h.elim fun a h=>h.elim fun b h=>h.elim fun c h=>h.elim fun d h=>k a b c d h
theorem ea42 {α β γ δ:Sort _} {A B:α->β->γ->δ->Prop} {G:Prop} (h : ∃ a b c d,A a b c d/\B a b c d) (k : ∀ a b c d,A a b c d->B a b c d->G):G:=h.elim fun a h=>h.elim fun b h=>h.elim fun c h=>h.elim fun d h=>k a b c d h.1 h.2
noncomputable abbrev D:=PyData
structure Ext (s s':Shared):Prop where
 keep : ∀ b o,s.heap.get? b=some o->s'.heap.get? b=some o
 os:s'.os=s.os
 gen : ∀ (i:Nat) x,s.gens[i]? = some x->s'.gens[i]? = some x
 bare:(∀ x∈s.gens,x.bare=true) -> ∀ x∈s'.gens,x.bare=true
theorem Ext.refl (s:Shared):Ext s s:=⟨fun Z Z e=>e,rfl,fun Z Z e=>e,fun h=>h⟩
theorem Ext.trans {a b c:Shared} (x:Ext a b) (y:Ext b c):Ext a c:=
 ⟨fun d o e=>y.keep d o (x.keep d o e),y.os.trans x.os,fun i v e=>y.gen i v (x.gen i v e),fun h=>y.bare (x.bare h)⟩
theorem Ext.toks (s:Shared) (t:Nat):Ext s { s with toks:=t }:=⟨fun Z Z e=>e,rfl,fun Z Z e=>e,fun h=>h⟩
theorem Ext.heap {s:Shared} {h':Heap} (t:Nat) (hk : ∀ b o,s.heap.get? b=some o->h'.get? b=some o):Ext s { s with heap:=h',toks:=t }:=
 ⟨hk,rfl,fun Z Z e=>e,fun h=>h⟩
theorem Ext.push (s:Shared) (o:Obj) (t:Nat):Ext s { s with heap:=s.heap.push o,toks:=t }:=
 Ext.heap t fun Z Z e=>Heap.get?_push_of_some _ e
theorem Ext.push' (s:Shared) (o:Obj):Ext s { s with heap:=s.heap.push o }:=Ext.push s o s.toks
noncomputable abbrev lObj (vs:List Value) (n:Nat):Obj:={ cls:= .type "list", data:= .seq vs.toArray n }
noncomputable abbrev tObj (vs:List Value) (n:Nat):Obj:={ cls:= .type "tuple", data:= .seq vs.toArray n }
noncomputable def strA (x:Str):Bool:=x.cps.all (·< 128)
mutual
inductive Rep (W:List Addr) (h:Heap):Value->D->Prop
 | none:Rep W h Value.none PyData.none
 | bool (b:Bool):Rep W h (Value.bool b) (PyData.bool b)
 | int (i:Int) (t:Tok):Rep W h (Value.int i t) (PyData.int i)
 | str (x:Str) (t:Tok) (ha:strA x=true):Rep W h (Value.str x t) (PyData.str x)
 | list {a:Addr} {vs:List Value} {n:Nat} {ds:List D}:a∉W->h.get? a=some (lObj vs n)->RepL W h vs ds->Rep W h (Value.ref a) (PyData.list ds)
 | tup {a:Addr} {vs:List Value} {n:Nat} {ds:List D}:a∉W->h.get? a=some (tObj vs n)->RepL W h vs ds->Rep W h (Value.ref a) (PyData.tuple ds)
inductive RepL (W:List Addr) (h:Heap):List Value->List D->Prop
 | nil:RepL W h [] []
 | cons {v:Value} {vs:List Value} {d:D} {ds:List D}:Rep W h v d->RepL W h vs ds->RepL W h (v::vs) (d::ds)
end
noncomputable def isSeq (o:Obj):Prop:= ∃ vs n,o=lObj vs n\/o=tObj vs n
theorem Rep.mono {W W':List Addr} {h h':Heap} (hk : ∀ a o,a∉W->isSeq o->h.get? a=some o->a∉W'/\h'.get? a=some o) {v:Value} {d:D} (r:Rep W h v d):Rep W' h' v d:=by
 refine Rep.rec (motive_1:=fun v d Z=>Rep W' h' v d) (motive_2:=fun vs ds Z=>RepL W' h' vs ds) .none .bool .int .str ?_ ?_ .nil ?_ r
 ·intro a vs n ds ha e Z r;exact .list (hk _ _ ha ⟨_,_,.inl rfl⟩ e).1 (hk _ _ ha ⟨_,_,.inl rfl⟩ e).2 r
 ·intro a vs n ds ha e Z r;exact .tup (hk _ _ ha ⟨_,_,.inr rfl⟩ e).1 (hk _ _ ha ⟨_,_,.inr rfl⟩ e).2 r
 ·intro v vs d ds Z Z a r;exact .cons a r
theorem RepL.mono {W W':List Addr} {h h':Heap} (hk : ∀ a o,a∉W->isSeq o->h.get? a=some o->a∉W'/\h'.get? a=some o) {vs:List Value} {ds:List D} (r:RepL W h vs ds):RepL W' h' vs ds:=by
 refine RepL.rec (motive_1:=fun Z Z Z=>True) (motive_2:=fun vs ds Z=>RepL W' h' vs ds) trivial (fun Z=>trivial) (fun Z Z=>trivial) (fun Z Z Z=>trivial) ?_ ?_ .nil ?_ r
 ·intros;trivial
 ·intros;trivial
 ·intro v vs d ds a Z Z r;exact .cons (a.mono hk) r
section
variable {W:List Addr} {h h':Heap} {v:Value} {d:D} {vs ws:List Value} {ds es:List D}
theorem Rep.keeps (r:Rep W h v d) (hk : ∀ b o,h.get? b=some o->h'.get? b=some o):Rep W h' v d:=r.mono fun a o ha Z e=>⟨ha,hk a o e⟩
theorem RepL.keeps (r:RepL W h vs ds) (hk : ∀ b o,h.get? b=some o->h'.get? b=some o):RepL W h' vs ds:=r.mono fun a o ha Z e=>⟨ha,hk a o e⟩
theorem Rep.ext {s s':Shared} (r:Rep W s.heap v d) (x:Ext s s'):Rep W s'.heap v d:=r.keeps x.keep
theorem RepL.ext {s s':Shared} (r:RepL W s.heap vs ds) (x:Ext s s'):RepL W s'.heap vs ds:=r.keeps x.keep
theorem Rep.shut {a:Addr} (r:Rep W h v d) (ha:h.get? a=Option.none):Rep (a::W) h v d:=r.mono fun b o hb Z e=>⟨fun hm=>by
 rcases List.mem_cons.mp hm with rfl|hm
 ·exact nomatch ha.symm.trans e
 ·exact hb hm,e⟩
theorem RepL.shut {a:Addr} (r:RepL W h vs ds) (ha:h.get? a=Option.none):RepL (a::W) h vs ds:=r.mono fun b o hb Z e=>⟨fun hm=>by
 rcases List.mem_cons.mp hm with rfl|hm
 ·exact nomatch ha.symm.trans e
 ·exact hb hm,e⟩
theorem Rep.sub {W':List Addr} (r:Rep W h v d) (hs : ∀ a∈W',a∈W):Rep W' h v d:=r.mono fun b o hb Z e=>⟨fun hm=>hb (hs b hm),e⟩
theorem RepL.sub {W':List Addr} (r:RepL W h vs ds) (hs : ∀ a∈W',a∈W):RepL W' h vs ds:=r.mono fun b o hb Z e=>⟨fun hm=>hb (hs b hm),e⟩
theorem RepL.but {a:Addr} (r:RepL W h vs ds) (hs : ∀ b o,b≠a->h.get? b=some o->h'.get? b=some o) (ha:a∈W \/ ∀ o,h.get? a=some o -> ¬ isSeq o):RepL W h' vs ds:=
 r.mono fun b o hb hq e=>⟨hb,hs b o (fun z=>by
  subst z
  rcases ha with ha|ha
  ·exact hb ha
  ·exact ha o e hq) e⟩
theorem RepL.length (r:RepL W h vs ds):vs.length=ds.length:=by
 induction vs generalizing ds with
 | nil=>cases r;rfl
 | cons v vs ih=>cases r with|cons _ r=>exact rwl List.length_cons (rwl List.length_cons (rwl (ih r) rfl))
theorem RepL.append (r:RepL W h vs ds) (q:RepL W h ws es):RepL W h (vs++ws) (ds++es):=by
 induction vs generalizing ds with
 | nil=>cases r;exact q
 | cons v vs ih=>cases r with|cons a r=>exact .cons a (ih r)
theorem RepL.get (r:RepL W h vs ds) {k:Nat} {d:D} (hk:ds[k]? = some d) : ∃ v,vs[k]? = some v/\Rep W h v d:=by
 induction vs generalizing ds k with
 | nil=>cases r;simp at hk
 | cons v vs ih=>
  cases r with
  | cons a r=>
   rcases k with _|k
   ·simp at hk;subst hk;exact ⟨v,rfl,a⟩
   ·simp at hk;exact ih r hk
theorem RepL.getV (r:RepL W h vs ds) {k:Nat} {v:Value} (hk:vs[k]? = some v) : ∃ d,ds[k]? = some d/\Rep W h v d:=by
 induction vs generalizing ds k with
 | nil=>simp at hk
 | cons u vs ih=>
  cases r with
  | cons a r=>
   rcases k with _|k
   ·simp at hk;subst hk;exact ⟨_,rfl,a⟩
   ·simp at hk;exact ih r hk
theorem RepL.take (r:RepL W h vs ds) (k:Nat):RepL W h (vs.take k) (ds.take k):=by
 induction vs generalizing ds k with
 | nil=>cases r;simp;exact .nil
 | cons v vs ih=>
  cases r with
  | cons a r=>rcases k with _|k
              ·exact .nil
              ·exact .cons a (ih r k)
theorem RepL.drop (r:RepL W h vs ds) (k:Nat):RepL W h (vs.drop k) (ds.drop k):=by
 induction vs generalizing ds k with
 | nil=>cases r;simp;exact .nil
 | cons v vs ih=>
  cases r with
  | cons a r=>rcases k with _|k
              ·exact .cons a r
              ·exact ih r k
theorem RepL.set (r:RepL W h vs ds) (k:Nat) (a:Rep W h v d):RepL W h (vs.set k v) (ds.set k d):=by
 induction vs generalizing ds k with
 | nil=>cases r;exact .nil
 | cons v vs ih=>
  cases r with
  | cons b r=>rcases k with _|k
              ·exact .cons a r
              ·exact .cons b (ih r k)
end
theorem Rep.reads {W:List Addr} {h:Heap} {v:Value} {d:D} (r:Rep W h v d) : ∃ as,Reads h v d as:=by
 refine Rep.rec (motive_1:=fun v d Z=> ∃ as,Reads h v d as) (motive_2:=fun vs ds Z=> ∃ as,ReadsAll h vs ds as) ⟨_,.none⟩ (fun b=>⟨_,.bool b⟩) (fun i t=>⟨_,.int i t⟩) (fun x t Z=>⟨_,.str x t⟩) ?_ ?_ ⟨_,.nil⟩ ?_ r
 ·intro a vs n ds Z e Z q;exact ea11 q fun Z q=>⟨_,.list e rfl rfl (by exact q)⟩
 ·intro a vs n ds Z e Z q;exact ea11 q fun Z q=>⟨_,.tuple e rfl rfl (by exact q)⟩
 ·intro v vs d ds Z Z p q;exact ea11 p fun Z p=>ea11 q fun Z q=>⟨_,.cons p q⟩
theorem strOk_of {x:Str} (h:strA x=true):PyData.strOk x=true:=by
 unfold strA at h;unfold PyData.strOk
 rw [Array.all_eq_true] at h ⊢
 intro i hi
 have:=h i hi
 simp only [decide_eq_true_eq] at this ⊢
 exact Nat.lt_of_lt_of_le this (Nat.le_of_ble_eq_true rfl)
theorem canLayC {d:D} {ds:List D} (a:d.canLay0=true) (r:PyData.canLayAll0 ds=true):PyData.canLayAll0 (d::ds)=true:=Bool.and_eq_true_iff.mpr ⟨a,r⟩
theorem Rep.canLay {W:List Addr} {h:Heap} {v:Value} {d:D} (r:Rep W h v d):d.canLay0=true:=by
 refine Rep.rec (motive_1:=fun Z d Z=>d.canLay0=true) (motive_2:=fun Z ds Z=>PyData.canLayAll0 ds=true) rfl (fun Z=>rfl) (fun Z Z=>rfl) (fun Z Z q=>strOk_of q) ?_ ?_ rfl ?_ r
 ·intro a vs n ds Z Z Z q;exact q
 ·intro a vs n ds Z Z Z q;exact q
 ·intro v vs d ds Z Z p q;exact canLayC p q
theorem RepL.canLay {W:List Addr} {h:Heap} {vs:List Value} {ds:List D} (r:RepL W h vs ds):PyData.canLayAll0 ds=true:=by
 refine RepL.rec (motive_1:=fun Z Z Z=>True) (motive_2:=fun Z ds Z=>PyData.canLayAll0 ds=true) trivial (fun Z=>trivial) (fun Z Z=>trivial) (fun Z Z Z=>trivial) (fun Z Z Z Z=>trivial) (fun Z Z Z Z=>trivial) rfl ?_ r
 intro v vs d ds a Z Z q;exact canLayC a.canLay q
theorem isList_of {h:Heap} {a:Addr} {vs:List Value} {n:Nat} (e:h.get? a=some (lObj vs n)):h.IsList a vs.toArray:=⟨_,e,rfl,n,rfl⟩
theorem isTup_of {h:Heap} {a:Addr} {vs:List Value} {n:Nat} (e:h.get? a=some (tObj vs n)):h.IsTuple a vs.toArray:=⟨_,e,rfl,n,rfl⟩
theorem get?_lt {h:Heap} {a:Addr} (ha:h.objs.size<=a):h.get? a=none:=by
 rcases e:h.get? a with _|o
 ·rfl
 ·exact absurd (Heap.lt_size e) (Nat.not_lt.mpr ha)
theorem Rep.newL {W:List Addr} {h:Heap} {vs:List Value} {ds:List D} (r:RepL W h vs ds) (hW : ∀ a∈W,a<h.objs.size) :
  Rep W (h.push (lObj vs 0)) (.ref h.objs.size) (.list ds):=
 .list (fun hm=>Nat.lt_irrefl _ (hW _ hm)) (Heap.get?_push_size _ rfl) (r.keeps fun Z Z e=>Heap.get?_push_of_some _ e)
theorem Rep.newT {W:List Addr} {h:Heap} {vs:List Value} {ds:List D} (r:RepL W h vs ds) (hW : ∀ a∈W,a<h.objs.size) :
  Rep W (h.push (tObj vs 0)) (.ref h.objs.size) (.tuple ds):=
 .tup (fun hm=>Nat.lt_irrefl _ (hW _ hm)) (Heap.get?_push_size _ rfl) (r.keeps fun Z Z e=>Heap.get?_push_of_some _ e)
theorem dtrue {p:Prop} [Decidable p] {f:p->Bool} (h:(if q:p then f q else false)=true) : ∃ q,f q=true:=dite p (fun q=>⟨q,(dif_pos q).symm.trans h⟩) fun q=>nomatch (dif_neg q).symm.trans h
theorem nnE {α:Type} {a:α} {P:Prop} (h:(none:Option α)=some a):P:=nomatch h
theorem bindE {α β:Type} {P:Prop} {o:Option α} {f:α->Option β} {b:β} (h:o.bind f=some b) (k : ∀ a,o=some a->f a=some b->P):P:=match o,h,k with|some a,h,k=>k a rfl h
theorem bindI {α β:Type} {o:Option α} {f:α->Option β} {a:α} {b:β} (h:o=some a) (k:f a=some b):o.bind f=some b:=by refine rwl h ?_;exact k
theorem mapI {α β:Type} {o:Option α} {f:α->β} {a:α} (h:o=some a):o.map f=some (f a):=by refine rwl h ?_;rfl
theorem mapE {α β:Type} {P:β->Prop} {o:Option α} {f:α->β} {b:β} (h:o.map f=some b) (k : ∀ a,o=some a->P (f a)):P b:=match o,h,k with|some a,h,k=>Option.some.inj h▸k a rfl
theorem and2 {a b:Bool} {P:Prop} (h:(a&&b)=true) (k:a=true->b=true->P):P:=match a,b,h,k with|true,true,_,k=>k rfl rfl
theorem and3 {a b c:Bool} {P:Prop} (h:(a&&b&&c)=true) (k:a=true->b=true->c=true->P):P:=and2 h fun h z=>and2 h fun x y=>k x y z
theorem and4 {a b c d:Bool} {P:Prop} (h:(a&&b&&c&&d)=true) (k:a=true->b=true->c=true->d=true->P):P:=and2 h fun h z=>and3 h fun x y u=>k x y u z
theorem and5 {a b c d e:Bool} {P:Prop} (h:(a&&b&&c&&d&&e)=true) (k:a=true->b=true->c=true->d=true->e=true->P):P:=and2 h fun h z=>and4 h fun x y u v=>k x y u v z
theorem and6 {a b c d e f:Bool} {P:Prop} (h:(a&&b&&c&&d&&e&&f)=true) (k:a=true->b=true->c=true->d=true->e=true->f=true->P):P:=and2 h fun h z=>and5 h fun x y u v w=>k x y u v w z
theorem and7 {a b c d e f g:Bool} {P:Prop} (h:(a&&b&&c&&d&&e&&f&&g)=true) (k:a=true->b=true->c=true->d=true->e=true->f=true->g=true->P):P:=and2 h fun h z=>and6 h fun x y u v w r=>k x y u v w r z
theorem iteO {α:Type} {c:Prop} [Decidable c] {o:Option α} {b:α} (h:(if c then o else none)=some b):c/\o=some b:=if q:c then ⟨q,(if_pos q).symm.trans h⟩ else nomatch (if_neg q).symm.trans h
theorem iteE {α:Type} {c:Prop} [Decidable c] {a b:α} (h:(if c then some a else none)=some b):c/\a=b:=⟨(iteO h).1,Option.some.inj (iteO h).2⟩
theorem ff {P:Prop} (h:false=true):P:=nomatch h
theorem andB {a b:Bool} (h:(a&&b)=true):a=true/\b=true:=Bool.and_eq_true_iff.mp h
theorem eqB {α:Type} [BEq α] [LawfulBEq α] {a b:α} (h:(a==b)=true):a=b:=beq_iff_eq.mp h
theorem notB {a:Bool} (h:(!a)=true):a=false:=Bool.not_eq_true' _▸h
theorem nilB {α:Type} {l:List α} (h:l.isEmpty=true):l=[]:=List.isEmpty_iff.mp h
inductive Tg where
 | n (x:Str)
 | t (xs:List Str)
mutual
inductive ME where
 | c (d:D)
 | var (x:Str)
 | own (x:Str)
 | bin (op:Operator) (a b:ME)
 | cmp (op:CmpOp) (a b:ME)
 | chn (o1 o2:CmpOp) (a b c:ME)
 | bop (op:BoolOp) (es:MEs)
 | ite (c a b:ME)
 | call (f:Str) (as:MEs)
 | blt (f:Str) (a:ME)
 | met (f:Str) (a:ME)
 | join (sep:Str) (a:ME)
 | idx (a i:ME)
 | sl (a lo hi st:ME)
 | list (es:MEs)
 | tup (es:MEs)
 | comp (elt:ME) (tg:Tg) (r:Bool) (it:ME) (cs:MEs)
 | comp2 (elt:ME) (t1:Tg) (i1:ME) (t2:Tg) (i2:ME)
 | om (x f:Str) (as:MEs)
 | dg (x:Str) (a b:ME)
 | g (x:Str)
inductive MEs where
 | nil
 | cons (m:ME) (r:MEs)
end
inductive Bd where
 | un
 | d (d:D)
 | o (ds:List D)
 | v (u:Value)
noncomputable abbrev Loc:=List (Str×Bd)
noncomputable def lk:Loc->Str->Bd
 | [],_=> .un
 | (k,b)::r,x=>if k==x then b else lk r x
noncomputable def upd:Loc->Str->Bd->Loc
 | [],x,b=>[(x,b)]
 | (k,b')::r,x,b=>if k==x then (k,b)::r else (k,b')::upd r x b
theorem lk_upd (ρ:Loc) (x y:Str) (b:Bd):lk (upd ρ x b) y=if x==y then b else lk ρ y:=by
 induction ρ with
 | nil=>simp [lk,upd]
 | cons p r ih=>
  obtain ⟨k,b'⟩:=p
  unfold upd
  by_cases hk:(k==x)=true
  ·refine rwl (if_pos hk) ?_
   have e:=beq_iff_eq.mp hk
   subst e
   simp only [lk]
   by_cases hy:(k==y)=true
   ·exact rwl (if_pos hy) (rwl (if_pos hy) rfl)
   ·exact rwl (if_neg hy) (rwl (if_neg hy) (rwl (if_neg hy) rfl))
  ·refine rwl (if_neg hk) ?_
   simp only [lk]
   by_cases hy:(k==y)=true
   ·refine rwl (if_pos hy) ?_
    have e:=beq_iff_eq.mp hy
    subst e
    have : ¬ (x==k)=true:=fun h=>hk (by rw [beq_iff_eq] at h ⊢;exact h.symm)
    exact rwl (if_neg this) (rwl (if_pos hy) rfl)
   ·exact rwl (if_neg hy) (rwl ih (rwl (if_neg hy) rfl))
noncomputable def szL:Nat:=100000
noncomputable def i2 (f:Int->Int->Option D):D->D->Option D
 | .int a=>fun y=>match y with | .int b=>f a b|_=>none
 | _=>fun Z=>none
noncomputable def addD:D->D->Option D
 | .int a=>fun y=>match y with | .int b=>some (.int (a+b))|_=>none
 | .str a=>fun y=>match y with | .str b=>if a.length+b.length<=szL then some (.str (a++b)) else none|_=>none
 | .list a=>fun y=>match y with | .list b=>if a.length+b.length<=szL then some (.list (a++b)) else none|_=>none
 | _=>fun Z=>none
noncomputable def mulD:D->D->Option D
 | .int a=>fun y=>match y with | .int b=>if -(2^62)<a/\a<2^62 then some (.int (a*b)) else none|_=>none
 | .list a=>fun y=>match y with | .int b=>if 0<=b/\b<=1000/\a.length<=64 then some (.list (List.replicate b.toNat a).flatten) else none|_=>none
 | _=>fun Z=>none
noncomputable def binD:Operator->D->D->Option D
 | .Add=>addD
 | .Sub=>i2 fun a b=>some (.int (a-b))
 | .Mult=>mulD
 | .Mod=>i2 fun a b=>if 0<b then some (.int (a%b)) else none
 | .FloorDiv=>i2 fun a b=>if 0<b /\ -(2^62)<a/\a<2^62 then some (.int (a/b)) else none
 | _=>fun Z Z=>none
theorem bAI (a b:Int):binD .Add (.int a) (.int b)=some (.int (a+b)):=(rfl)
theorem bAS (a b:Str):binD .Add (.str a) (.str b)=if a.length+b.length<=szL then some (.str (a++b)) else none:=(rfl)
theorem bAL (a b:List D):binD .Add (.list a) (.list b)=if a.length+b.length<=szL then some (.list (a++b)) else none:=(rfl)
theorem bSI (a b:Int):binD .Sub (.int a) (.int b)=some (.int (a-b)):=(rfl)
theorem bMI (a b:Int):binD .Mult (.int a) (.int b)=if -(2^62)<a/\a<2^62 then some (.int (a*b)) else none:=(rfl)
theorem bML (a:List D) (b:Int):binD .Mult (.list a) (.int b)=if 0<=b/\b<=1000/\a.length<=64 then some (.list (List.replicate b.toNat a).flatten) else none:=(rfl)
theorem bOI (a b:Int):binD .Mod (.int a) (.int b)=if 0<b then some (.int (a%b)) else none:=(rfl)
theorem bDI (a b:Int):binD .FloorDiv (.int a) (.int b)=if 0<b /\ -(2^62)<a/\a<2^62 then some (.int (a/b)) else none:=(rfl)
theorem addD_el {x y d:D} {P:D->D->D->Prop} (e:addD x y=some d) (k1 : ∀ a b,P (.int a) (.int b) (.int (a+b))) (k2 : ∀ a b,a.length+b.length<=szL->P (.str a) (.str b) (.str (a++b)))
  (k3 : ∀ a b,a.length+b.length<=szL->P (.list a) (.list b) (.list (a++b))):P x y d:=by
 rcases x with _|_|a|a|a|_|_
 case int=>
  rcases y with _|_|b|_|_|_|_
  case int=>exact Option.some.inj e▸k1 a b
  all_goals exact nnE e
 case str=>
  rcases y with _|_|_|b|_|_|_
  case str=>exact (iteE e).2▸k2 a b (iteE e).1
  all_goals exact nnE e
 case list=>
  rcases y with _|_|_|_|b|_|_
  case list=>exact (iteE e).2▸k3 a b (iteE e).1
  all_goals exact nnE e
 all_goals exact nnE e
theorem mulD_el {x y d:D} {P:D->D->D->Prop} (e:mulD x y=some d) (k1 : ∀ a b,-(2^62)<a/\a<2^62->P (.int a) (.int b) (.int (a*b)))
  (k2 : ∀ a b,0<=b/\b<=1000/\a.length<=64->P (.list a) (.int b) (.list (List.replicate b.toNat a).flatten)):P x y d:=by
 rcases x with _|_|a|_|a|_|_
 case int=>
  rcases y with _|_|b|_|_|_|_
  case int=>exact (iteE e).2▸k1 a b (iteE e).1
  all_goals exact nnE e
 case list=>
  rcases y with _|_|b|_|_|_|_
  case int=>exact (iteE e).2▸k2 a b (iteE e).1
  all_goals exact nnE e
 all_goals exact nnE e
noncomputable def inD (x:D):D->Option Bool
 | .list ds=>if x.depth<=64 then some (ds.any fun y=>PyData.eqv y x) else none
 | .tuple ds=>if x.depth<=64 then some (ds.any fun y=>PyData.eqv y x) else none
 | .str y=>match x with
  | .str z=>some (!(Builtin.Str.occurrences y z 0 y.length 1).isEmpty)
  | _=>none
 | _=>none
theorem iL (x:D) (ds:List D):inD x (.list ds)=if x.depth<=64 then some (ds.any fun y=>PyData.eqv y x) else none:=(rfl)
theorem iT (x:D) (ds:List D):inD x (.tuple ds)=if x.depth<=64 then some (ds.any fun y=>PyData.eqv y x) else none:=(rfl)
theorem iS (z y:Str):inD (.str z) (.str y)=some (!(Builtin.Str.occurrences y z 0 y.length 1).isEmpty):=(rfl)
theorem inD_el {x y:D} {t:Bool} {P:D->D->Bool->Prop} (e:inD x y=some t) (k1 : ∀ ds,x.depth<=64->P x (.list ds) (ds.any fun y=>PyData.eqv y x)) (k2 : ∀ ds,x.depth<=64->P x (.tuple ds) (ds.any fun y=>PyData.eqv y x))
  (k3 : ∀ z y,P (.str z) (.str y) (!(Builtin.Str.occurrences y z 0 y.length 1).isEmpty)):P x y t:=by
 rcases y with _|_|_|y|ds|ds|_
 case list=>exact (iteE e).2▸k1 ds (iteE e).1
 case tuple=>exact (iteE e).2▸k2 ds (iteE e).1
 case str=>
  rcases x with _|_|_|z|_|_|_
  case str=>exact Option.some.inj e▸k3 z y
  all_goals exact nnE e
 all_goals exact nnE e
noncomputable def c2 (f:Int->Int->Bool):D->D->Option Bool
 | .int a=>fun y=>match y with | .int b=>some (f a b)|_=>none
 | _=>fun Z=>none
noncomputable def isD:D->D->Option Bool
 | .none=>fun y=>match y with | .none=>some true|_=>none
 | .int _=>fun y=>match y with | .none=>some false|_=>none
 | .str _=>fun y=>match y with | .none=>some false|_=>none
 | _=>fun Z=>none
noncomputable def cmpD:CmpOp->D->D->Option Bool
 | .Eq=>fun a b=>if a.depth<=64 then some (PyData.eqv a b) else none
 | .NotEq=>fun a b=>if a.depth<=64 then some (!PyData.eqv a b) else none
 | .Lt=>c2 fun a b=>decide (a<b)
 | .LtE=>c2 fun a b=>decide (a<=b)
 | .Gt=>c2 fun a b=>decide (a>b)
 | .GtE=>c2 fun a b=>decide (a>=b)
 | .In=>inD
 | .NotIn=>fun a b=>(inD a b).map (!·)
 | .Is=>isD
 | _=>fun Z Z=>none
theorem cEq (a b:D):cmpD .Eq a b=if a.depth<=64 then some (PyData.eqv a b) else none:=(rfl)
theorem cNe (a b:D):cmpD .NotEq a b=if a.depth<=64 then some (!PyData.eqv a b) else none:=(rfl)
theorem cLt (a b:Int):cmpD .Lt (.int a) (.int b)=some (decide (a<b)):=(rfl)
theorem cLe (a b:Int):cmpD .LtE (.int a) (.int b)=some (decide (a<=b)):=(rfl)
theorem cGt (a b:Int):cmpD .Gt (.int a) (.int b)=some (decide (a>b)):=(rfl)
theorem cGe (a b:Int):cmpD .GtE (.int a) (.int b)=some (decide (a>=b)):=(rfl)
theorem cIn (a b:D):cmpD .In a b=inD a b:=(rfl)
theorem cNi (a b:D):cmpD .NotIn a b=(inD a b).map (!·):=(rfl)
theorem i2_el {f:Int->Int->Option D} {x y d:D} {P:D->D->Prop} (e:i2 f x y=some d) (k : ∀ a b,f a b=some d->P (.int a) (.int b)):P x y:=by
 rcases x with _|_|a|_|_|_|_
 case int=>
  rcases y with _|_|b|_|_|_|_
  case int=>exact k a b e
  all_goals exact nnE e
 all_goals exact nnE e
theorem isD_el {x y:D} {t:Bool} {P:D->D->Bool->Prop} (e:isD x y=some t) (k1:P .none .none true) (k2 : ∀ a,P (.int a) .none false) (k3 : ∀ a,P (.str a) .none false):P x y t:=by
 rcases x with _|_|a|a|_|_|_
 case none=>
  rcases y with _|_|_|_|_|_|_
  case none=>exact Option.some.inj e▸k1
  all_goals exact nnE e
 case int=>
  rcases y with _|_|_|_|_|_|_
  case none=>exact Option.some.inj e▸k2 a
  all_goals exact nnE e
 case str=>
  rcases y with _|_|_|_|_|_|_
  case none=>exact Option.some.inj e▸k3 a
  all_goals exact nnE e
 all_goals exact nnE e
theorem c2_el {f:Int->Int->Bool} {x y:D} {t:Bool} {P:D->D->Prop} (e:c2 f x y=some t) (k : ∀ a b,f a b=t->P (.int a) (.int b)):P x y:=by
 rcases x with _|_|a|_|_|_|_
 case int=>
  rcases y with _|_|b|_|_|_|_
  case int=>exact k a b (Option.some.inj e)
  all_goals exact nnE e
 all_goals exact nnE e
noncomputable def truD:D->Option Bool
 | .bool b=>some b
 | .int i=>some (i != 0)
 | _=>none
noncomputable def idxD:D->D->Option D
 | .list ds,.int i=>if ds.length<=szL /\ -(2^63)<=i/\i<2^63 then (seqIndex? i ds.length).bind (ds[·]?) else none
 | .tuple ds,.int i=>if ds.length<=szL /\ -(2^63)<=i/\i<2^63 then (seqIndex? i ds.length).bind (ds[·]?) else none
 | .str x,.int i=>if x.length<=szL /\ -(2^63)<=i/\i<2^63 then (seqIndex? i x.length).bind fun k=>(x.cps[k]?).map fun c=> .str ⟨#[c]⟩ else none
 | _,_=>none
theorem idxD_el {x y d:D} {P:D->D->D->Prop} (e:idxD x y=some d) (k1 : ∀ ds i k,-(2^63)<=i/\i<2^63->seqIndex? i ds.length=some k->ds[k]? = some d->P (.list ds) (.int i) d)
  (k2 : ∀ ds i k,-(2^63)<=i/\i<2^63->seqIndex? i ds.length=some k->ds[k]? = some d->P (.tuple ds) (.int i) d)
  (k3 : ∀ z i k c,-(2^63)<=i/\i<2^63->seqIndex? i z.length=some k->z.cps[k]? = some c->P (.str z) (.int i) (.str ⟨#[c]⟩)):P x y d:=by
 rcases x with _|_|_|z|ds|ds|_
 case list=>
  rcases y with _|_|i|_|_|_|_
  case int=>exact bindE (iteO e).2 fun k h1 h2=>k1 ds i k (iteO e).1.2 h1 h2
  all_goals exact nnE e
 case tuple=>
  rcases y with _|_|i|_|_|_|_
  case int=>exact bindE (iteO e).2 fun k h1 h2=>k2 ds i k (iteO e).1.2 h1 h2
  all_goals exact nnE e
 case str=>
  rcases y with _|_|i|_|_|_|_
  case int=>exact bindE (iteO e).2 fun k h1 h2=>mapE h2 fun c h3=>k3 z i k c (iteO e).1.2 h1 h3
  all_goals exact nnE e
 all_goals exact nnE e
noncomputable def partD:D->Option (Option Int)
 | .none=>some Option.none
 | .int i=>some (some i)
 | _=>none
noncomputable def sliceIx (lo hi st:Option Int) (n:Nat):List Nat:=PySem.sliceRange (PySem.sliceBounds lo hi st n).1 (PySem.sliceBounds lo hi st n).2.1 (PySem.sliceBounds lo hi st n).2.2
noncomputable def pick {α:Type} (xs:List α) (lo hi st:Option Int):List α:=(sliceIx lo hi st xs.length).filterMap fun i=>xs[i]?
noncomputable def slD (a lo hi st:D):Option D:=do
 let lo <- partD lo
 let hi <- partD hi
 let st <- partD st
 match a with
 | .list ds=>if st≠some 0/\ds.length<=szL then some (.list (pick ds lo hi st)) else none
 | .str x=>if st=none/\x.length<=szL/\(Builtin.Str.strSliceIndices lo hi 1 x.length).length<=szL then some (.str (if ((Builtin.Str.strSliceIndices lo hi 1 x.length).length==x.length)=true then x else ⟨((Builtin.Str.strSliceIndices lo hi 1 x.length).filterMap (x.cps[·]?)).toArray⟩)) else none
 | _=>none
noncomputable def metD (f:Str):D->Option D
 | .str x=>
  if f==Str.ofString "lower" then (if strA (Txt.lower x) && !Builtin.Str.tooLong (Txt.lower x).length then some (.str (Txt.lower x)) else none)
  else if f==Str.ofString "upper" then (if strA (Txt.upper x) && !Builtin.Str.tooLong (Txt.upper x).length then some (.str (Txt.upper x)) else none)
  else none
 | _=>none
noncomputable def strsOf:List D->Option (List Str)
 | []=>some []
 | .str x::r=>(strsOf r).map (x :: ·)
 | _::_=>none
noncomputable def intsOf:List D->Option (List Int)
 | []=>some []
 | .int x::r=>(intsOf r).map (x :: ·)
 | _::_=>none
noncomputable def items? : D->Option (List D)
 | .list ds=>some ds
 | .tuple ds=>some ds
 | _=>none
noncomputable def rngD (n:Int):List D:=(List.range n.toNat).map fun (i:Nat)=>PyData.int i
noncomputable def noOwn:Loc->Loc
 | []=>[]
 | (k,.o _)::r=>(k,.un)::noOwn r
 | (k,b)::r=>(k,b)::noOwn r
noncomputable def hide (xs:List Str) (ρ:Loc):Loc:=xs.foldl (fun ρ x=>upd ρ x .un) (noOwn ρ)
noncomputable def tgNames:Tg->List Str
 | .n x=>[x]
 | .t xs=>xs
noncomputable def bindT (tg:Tg) (d:D) (ρ:Loc):Option Loc:=match tg with
 | .n x=>some (upd ρ x (.d d))
 | .t xs=>match items? d with
  | some ds=>if ds.length=xs.length then some ((xs.zip ds).foldl (fun ρ p=>upd ρ p.1 (.d p.2)) ρ) else none
  | none=>none
noncomputable def compRun (f:D->Option (Option D)):List D->Option (List D)
 | []=>some []
 | x::r=>match f x with
  | some (some y)=>(compRun f r).map (y :: ·)
  | some none=>compRun f r
  | none=>none
noncomputable def compFlat (f:D->Option (List D)):List D->Option (List D)
 | []=>some []
 | x::r=>match f x with
  | some ys=>(compFlat f r).map (ys ++ ·)
  | none=>none
noncomputable abbrev Fns:=Str->List D->Option D
noncomputable def own1:ME->Loc->Option D->Option D
 | .own x,ρ,_=>(match lk ρ x with | .o ds=>some (.list ds)|_=>none)
 | _,_,r=>r
mutual
noncomputable def ev (Φ:Fns) (B:Fns):ME->Loc->Option D
 | .c d=>fun Z=>some d
 | .var x=>fun ρ=>match lk ρ x with | .d d=>some d|_=>none
 | .own _=>fun Z=>none
 | .bin op a b=>fun ρ=>(ev Φ B a ρ).bind fun x=>(ev Φ B b ρ).bind fun y=>binD op x y
 | .cmp op a b=>fun ρ=>(ev Φ B a ρ).bind fun x=>(ev Φ B b ρ).bind fun y=>(cmpD op x y).map .bool
 | .chn o1 o2 a b c=>fun ρ=>(ev Φ B a ρ).bind fun x=>(ev Φ B b ρ).bind fun y=>(cmpD o1 x y).bind fun t=>
   if t then (ev Φ B c ρ).bind fun z=>(cmpD o2 y z).map .bool else some (.bool false)
 | .bop op es=>fun ρ=>(evB Φ B op es ρ).map .bool
 | .ite c a b=>fun ρ=>((ev Φ B c ρ).bind truD).bind fun t=>if t then ev Φ B a ρ else ev Φ B b ρ
 | .call f as=>fun ρ=>(evL Φ B as ρ).bind fun ds=>Φ f ds
 | .blt f a=>fun ρ=>(own1 a ρ (ev Φ B a ρ)).bind fun d=>B f [d]
 | .met f a=>fun ρ=>(ev Φ B a ρ).bind fun d=>metD f d
 | .join sep a=>fun ρ=>(own1 a ρ (ev Φ B a ρ)).bind fun d=>B (Str.ofString "join") [.str sep,d]
 | .idx a i=>fun ρ=>(own1 a ρ (ev Φ B a ρ)).bind fun x=>(ev Φ B i ρ).bind fun y=>idxD x y
 | .sl a lo hi st=>fun ρ=>(own1 a ρ (ev Φ B a ρ)).bind fun x=>(ev Φ B lo ρ).bind fun l=>(ev Φ B hi ρ).bind fun h=>(ev Φ B st ρ).bind fun t=>slD x l h t
 | .list es=>fun ρ=>(evL Φ B es ρ).map .list
 | .tup es=>fun ρ=>(evL Φ B es ρ).map .tuple
 | .comp elt tg r it cs=>fun ρ=>(ev Φ B it ρ).bind fun src=>
   (if r then (match src with | .int n=>if 0<=n/\n<=1000 then some (rngD n) else none|_=>none) else items? src).bind fun xs=>
   if xs.length<=szL then
   (compRun (fun x=>(bindT tg x (hide (tgNames tg) ρ)).bind fun ρ'=>(evA Φ B cs ρ').bind fun ok=>if ok then (ev Φ B elt ρ').map some else some none) xs).map .list
   else none
 | .comp2 elt t1 i1 t2 i2=>fun ρ=>(ev Φ B i1 ρ).bind fun src=>(items? src).bind fun xs=>
   if xs.length<=1000 then
   (compFlat (fun x=>(bindT t1 x (hide (tgNames t1++tgNames t2) ρ)).bind fun ρ'=>(ev Φ B i2 ρ').bind fun src2=>(items? src2).bind fun ys=>if ys.length<=1000 then
    compRun (fun y=>(bindT t2 y ρ').bind fun ρ''=>(ev Φ B elt ρ'').map some) ys else none) xs).map .list
   else none
 | .om x f as=>fun ρ=>match lk ρ x with | .v _=>(evL Φ B as ρ).bind fun ds=>B f (.bool true :: .bool true::ds)|_=>none
 | .dg x a b=>fun ρ=>(ev Φ B a ρ).bind fun p=>(ev Φ B b ρ).bind fun q=>B x [.none,p,q]
 | .g x=>fun Z=>B x []
noncomputable def evL (Φ:Fns) (B:Fns):MEs->Loc->Option (List D)
 | .nil=>fun Z=>some []
 | .cons m r=>fun ρ=>(ev Φ B m ρ).bind fun d=>(evL Φ B r ρ).map (d :: ·)
noncomputable def evB (Φ:Fns) (B:Fns) (op:BoolOp):MEs->Loc->Option Bool
 | .nil=>fun Z=>some (op == .And)
 | .cons m r=>fun ρ=>match ev Φ B m ρ with
  | some (.bool b)=>if b==(op == .Or) then some b else evB Φ B op r ρ
  | _=>none
noncomputable def evA (Φ:Fns) (B:Fns):MEs->Loc->Option Bool
 | .nil=>fun Z=>some true
 | .cons m r=>fun ρ=>((ev Φ B m ρ).bind truD).bind fun b=>if b then evA Φ B r ρ else some false
end
open PySem PySem.W PySem.Calls PyProof.Rows PySem.SeqAt
structure Room (A:Around) (k:Nat):Prop where
 hh:A.handled=none
 dp:A.depth+k<recursionLimit
 un:A.units+10*k+200<cLine
noncomputable def Live (W:List Addr) (h:Heap):Prop:= ∀ a∈W,a<h.objs.size
noncomputable def Shut (W:List Addr) (h:Heap):Prop:= ∀ a∈W,∃ vs n,h.get? a=some (lObj vs n)
theorem Shut.live {W:List Addr} {h:Heap} (x:Shut W h):Live W h:=fun a ha=>ea21 (x a ha) fun Z Z e=>Heap.lt_size e
theorem Shut.keeps {W:List Addr} {h h':Heap} (x:Shut W h) (hk : ∀ b o,h.get? b=some o->h'.get? b=some o):Shut W h':=fun a ha=>ea21 (x a ha) fun vs n e=>⟨vs,n,hk a _ e⟩
theorem le_size {n:Nat} (h:n<=szL):n<=sizeLine:=by refine rwl sizeLine_eq ?_;unfold szL at h;exact Nat.le_trans h (Nat.le_of_ble_eq_true rfl)
theorem lt63 {n:Nat} (h:n<=szL):((n:Nat):Int)<2^63:=by unfold szL at h;exact i63 h rfl
section
variable {prog:Program} {w:World} {A:Around} {E:Value->Shared->Prop} {s:Shared} {W:List Addr} {v u:Value} {x y d:D} {Q:Value->Shared->Prop}
noncomputable abbrev Gives (s:Shared) (W:List Addr) (d:D) (Q:Value->Shared->Prop):Prop:= ∀ r s',Ext s s'->Rep W s'.heap r d->Q r s'
theorem strA_append {a b:Str} (ha:strA a=true) (hb:strA b=true):strA (a++b)=true:=by
 unfold strA at *
 refine rwl (show (a++b).cps=a.cps++b.cps from rfl) (rwl Array.all_append (rwl ha (rwl hb ?_)));rfl
theorem flatten_arr (vs:List Value) (n:Nat):(List.foldl (fun x1 x2=>x1++x2) #[] (List.replicate n vs.toArray))=((List.replicate n vs).flatten).toArray:=by
 have : ∀ (l:List (List Value)) (acc:List Value),(l.map (·.toArray)).foldl (fun x1 x2=>x1++x2) acc.toArray=(acc++l.flatten).toArray:=by
  intro l
  induction l with
  | nil=>intro acc;simp
  | cons a l ih=>intro acc;simp only [List.map_cons,List.foldl_cons,List.flatten_cons];refine rwl (show acc.toArray++a.toArray=(acc++a).toArray by simp) (rwl (ih _) ?_);simp
 have e:=this (List.replicate n vs) []
 simp only [List.map_replicate,List.nil_append] at e
 exact e
theorem RepL.rep {W:List Addr} {h:Heap} {vs:List Value} {ds:List D} (r:RepL W h vs ds) : ∀ n,RepL W h (List.replicate n vs).flatten (List.replicate n ds).flatten
 | 0=>by exact RepL.nil
 | n+1=>by
  exact r.append (RepL.rep r n)
theorem Rep.int_el {h:Heap} {i:Int} {P:Value->Prop} (r:Rep W h v (.int i)) (k : ∀ t,P (.int i t)):P v:=by cases r;exact k _
theorem Rep.str_el {h:Heap} {i:Str} {P:Value->Prop} (r:Rep W h v (.str i)) (k : ∀ t,strA i=true->P (.str i t)):P v:=by cases r;exact k _ (by assumption)
theorem Rep.list_el {h:Heap} {ds:List D} {P:Value->Prop} (r:Rep W h v (.list ds)) (k : ∀ a vs n,a∉W->h.get? a=some (lObj vs n)->RepL W h vs ds->P (.ref a)):P v:=by cases r with|list h1 h2 h3=>exact k _ _ _ h1 h2 h3
theorem Rep.tup_el {h:Heap} {ds:List D} {P:Value->Prop} (r:Rep W h v (.tuple ds)) (k : ∀ a vs n,a∉W->h.get? a=some (tObj vs n)->RepL W h vs ds->P (.ref a)):P v:=by cases r with|tup h1 h2 h3=>exact k _ _ _ h1 h2 h3
theorem RepL.cons_el {h:Heap} {vs:List Value} {d:D} {ds:List D} {P:List Value->Prop} (r:RepL W h vs (d::ds)) (k : ∀ u us,Rep W h u d->RepL W h us ds->P (u::us)):P vs:=by cases r with|cons a b=>exact k _ _ a b
theorem RepL.nil_el {h:Heap} {vs:List Value} {P:List Value->Prop} (r:RepL W h vs []) (k:P []):P vs:=by cases r;exact k
theorem RepL.two_el {h:Heap} {vs:List Value} {d e:D} {P:List Value->Prop} (r:RepL W h vs [d,e]) (k : ∀ u v,Rep W h u d->Rep W h v e->P [u,v]):P vs:=by
 apply r.cons_el;intro u us a b
 apply b.cons_el;intro v us b c
 exact c.nil_el (P:=fun us=>P (u::v::us)) (k u v a b)
theorem mul_li {vs:List Value} {a:Addr} {n:Nat} {b:Int} {t':Tok} (ea:s.heap.get? a=some (lObj vs n)) (hc:0<=b/\b<=1000/\vs.length<=64)
  (h:Q (.ref s.heap.objs.size) { s with heap:=s.heap.push (lObj (List.replicate b.toNat vs).flatten 0) }):wpAny (model prog w) A (binaryOp .Mult (.ref a) (.int b t')) Q E s:=by
 have h3:vs.length*b.toNat<=64000:=Nat.mul_le_mul hc.2.2 (Int.toNat_le.mpr hc.2.1)
 refine wpAny_binaryOp_repeat_ref (T:= "list") (U:= "int") rfl ⟨_,ea,rfl⟩ (fun s'=>typeIs_int s' b t') noFill_list_mul F.fills_int_mul F.slot_int_rmul repeat_list F.slot_int_index.lookup
  (call_meets F.slot_int_rmul (typeIs_int s b t') F.entry_int_rmul (F.args_int_rmul_2 _ _) (int___rmul___int_list b t' a vs.toArray n)
   ⟨ea,rfl,⟨_,ea,rfl⟩,call_meets F.slot_list_mul ⟨_,ea,rfl⟩ F.entry_list_mul (F.args_list_mul_2 _ _)
    (AutoListH.list___mul___list_int_3 a vs.toArray n b t' (by simp [Builtin.List.listFitsIndex];exact H407 hc.1 hc.2.1) (by
     refine rwl List.size_toArray ?_;exact Nat.not_lt_of_le (t2 h3 rfl)) (by simp [Builtin.List.listTooLong,sizeLine];exact Nat.le_trans h3 (Nat.le_of_ble_eq_true rfl)))
    ⟨ea,?_⟩⟩)
 refine rwl (flatten_arr _ _) ?_
 have e0:(List.replicate (if vs.toArray.isEmpty=true then 0 else b.toNat) vs).flatten=(List.replicate b.toNat vs).flatten:=by
  rcases vs with _|⟨_,_⟩
  ·simp
  ·rfl
 refine rwl e0 ?_;exact h
theorem intBits_le_of {a:Int} (h1 : -(2^62)<a) (h2:a<2^62):IntMulOk a (b:Int):=by
 have:=intBits_le_64 (k:=a) (by exact H412 h1) (by exact Int.lt_of_lt_of_le h2 (Int.le_of_lt (Int.natCast_nonneg 13835058055282163711)))
 unfold IntMulOk
 have e:decide (Builtin.Int.intBits a>shortFactorBits)=false:=by
  apply decide_eq_false
  show ¬ (Builtin.Int.intBits a>64)
  exact Nat.not_lt_of_le this
 refine rwl e ?_;simp
theorem noPy {a b:Int} (hb:0<b) (h : -(2^62)<a/\a<2^62):Builtin.divisionGoesByPylong a b=false:=by
 have h2:a.natAbs.log2<62:=by
  by_cases z:a.natAbs=0
  ·refine rwl z ?_;decide
  ·exact (Nat.log2_lt z).mpr (by exact G413 h.1 h.2)
 unfold Builtin.divisionGoesByPylong
 simp only [Bool.and_eq_false_iff,decide_eq_false_iff_not]
 right
 split<;>(first|exact Nat.not_lt_zero _|exact H414 h2)
theorem gI {i:Int} (h:Gives s W (.int i) Q):Q (.int i s.toks) { s with toks:=s.toks+1 }:=h _ _ (Ext.toks s _) (.int _ _)
theorem op_bin {op:Operator} (rm:A.handled=none) (hW:Shut W s.heap) (rv:Rep W s.heap v x) (ru:Rep W s.heap u y) (e:binD op x y=some d) (h:Gives s W d Q) :
  wpAny (model prog w) A (binaryOp op v u) Q E s:=by
 revert rv ru h
 rcases op with _|_|_|_|_|_|_|_|_|_|_|_|_
 case Add=>
  apply addD_el e
  ·intro a b rv ru h
   apply rv.int_el;intro t;apply ru.int_el;intro t'
   exact PyProof.Rows.add_int (gI h)
  ·intro a b hc rv ru h
   apply rv.str_el;intro t ha;apply ru.str_el;intro t' hb
   exact PyProof.Rows.add_str (fun t' tk=>h _ _ (Ext.toks s _) (.str _ _ (strA_append ha hb))) (le_size hc)
  ·intro xs ys hc rv ru h
   apply rv.list_el;intro a vs n Z ea ra;apply ru.list_el;intro b us m Z eb rb
   rw [<- ra.length,<- rb.length] at hc
   refine concat_meets ⟨_,ea,rfl⟩ ⟨_,eb,rfl⟩ noFill_list_add seq_list_add PySem.F.slot_list_add PySem.F.entry_list_add (PySem.F.args_list_add_2 _ _)
    (list_addW a b vs.toArray us.toArray n m none none #[] #[] (le_size hc)) ⟨ea,eb,?_⟩
   refine rwl (show vs.toArray++us.toArray=(vs++us).toArray by simp) ?_
   exact h _ _ (Ext.push' s _) (Rep.newL (ra.append rb) hW.live)
 case Mult=>
  apply mulD_el e
  ·intro a b hc rv ru h
   apply rv.int_el;intro t;apply ru.int_el;intro t'
   exact PyProof.Rows.mul_int (gI h) (intBits_le_of hc.1 hc.2)
  ·intro xs b hc rv ru h
   apply rv.list_el;intro a vs n Z ea ra;apply ru.int_el;intro t'
   exact mul_li ea (ra.length▸hc) (h _ _ (Ext.push' s _) (Rep.newL (ra.rep _) hW.live))
 case Sub=>
  apply i2_el e;clear e;intro a b e rv ru h
  obtain rfl:=Option.some.inj e
  apply rv.int_el;intro t;apply ru.int_el;intro t'
  exact PyProof.Rows.sub_int (gI h)
 case Mod=>
  apply i2_el e;clear e;intro a b e rv ru h
  refine ea02 (iteE e) fun hc Z1=> ?_;subst Z1
  apply rv.int_el;intro t;apply ru.int_el;intro t'
  refine mod_int_or rm (fun h0=>absurd (h0▸hc) (Int.lt_irrefl _)) fun Z=> ?_
  refine rwl (Int.fmod_eq_emod_of_nonneg _ (Int.le_of_lt hc)) ?_
  exact gI h
 case FloorDiv=>
  apply i2_el e;clear e;intro a b e rv ru h
  refine ea02 (iteE e) fun hc Z1=> ?_;subst Z1
  apply rv.int_el;intro t;apply ru.int_el;intro t'
  refine floordiv_int_or rm (fun h0=>absurd (h0▸hc.1) (Int.lt_irrefl _)) (fun Z=> ?_) fun Z=> .inl (noPy hc.1 hc.2)
  refine rwl (Int.fdiv_eq_ediv_of_nonneg _ (Int.le_of_lt hc.1)) ?_
  exact gI h
 all_goals exact nnE e
theorem op_eq (rm:Room A 0) (rv:Rep W s.heap v x) (ru:Rep W s.heap u y) (hd:x.depth<=64) (h:Q (.bool (PyData.eqv x y)) s):wpAny (model prog w) A (compareOp .Eq v u) Q E s:=by
 obtain ⟨_,a⟩:=rv.reads
 obtain ⟨_,b⟩:=ru.reads
 exact compareEq_reads a b rv.canLay ru.canLay (by have:=rm.un;have:=Nat.min_le_left x.depth y.depth;exact H86 (by assumption) hd) h
theorem op_ne (rm:Room A 0) (rv:Rep W s.heap v x) (ru:Rep W s.heap u y) (hd:x.depth<=64) (h:Q (.bool (!PyData.eqv x y)) s):wpAny (model prog w) A (compareOp .NotEq v u) Q E s:=by
 obtain ⟨_,a⟩:=rv.reads
 obtain ⟨_,b⟩:=ru.reads
 exact compareNe_reads a b rv.canLay ru.canLay (by have:=rm.un;have:=Nat.min_le_left x.depth y.depth;exact H86 (by assumption) hd) h
theorem in_room {A:Around} {xs:List D} {x:D} (rm:Room A 0) (hx:PyData.depth x<=64):A.units+1+min (PyData.depthAll xs) (PyData.depth x)<cLine:=by
 have h1:=rm.un
 have h2:=Nat.min_le_right (PyData.depthAll xs) (PyData.depth x)
 exact H87 h1 hx
theorem op_in {b:Bool} (rm:Room A 0) (rv:Rep W s.heap v x) (ru:Rep W s.heap u y) (e:inD x y=some b) (h:Q (.bool b) s):wpAny (model prog w) A (compareOp .In v u) Q E s:=by
 obtain ⟨_,a⟩:=rv.reads
 obtain ⟨_,c⟩:=ru.reads
 revert rv ru h a c
 apply inD_el e
 ·intro ds hd rv ru h a c
  revert c;apply ru.list_el;intro l vs n Z ea ra c
  exact in_list_reads c a ra.canLay rv.canLay (in_room rm hd) h
 ·intro ds hd rv ru h a c
  revert c;apply ru.tup_el;intro l vs n Z ea ra c
  exact in_tuple_reads c a ra.canLay rv.canLay (in_room rm hd) h
 ·intro z y rv ru h Z Z
  apply rv.str_el;intro t Z;apply ru.str_el;intro t' Z
  exact PyProof.Rows.in_str h
theorem op_notIn {b:Bool} (rm:Room A 0) (rv:Rep W s.heap v x) (ru:Rep W s.heap u y) (e:inD x y=some b) (h:Q (.bool (!b)) s):wpAny (model prog w) A (compareOp .NotIn v u) Q E s:=by
 obtain ⟨_,a⟩:=rv.reads
 obtain ⟨_,c⟩:=ru.reads
 revert rv ru h a c
 apply inD_el e
 ·intro ds hd rv ru h a c
  revert c;apply ru.list_el;intro l vs n Z ea ra c
  exact notIn_list_reads c a ra.canLay rv.canLay (in_room rm hd) h
 ·intro ds hd rv ru h a c
  revert c;apply ru.tup_el;intro l vs n Z ea ra c
  exact notIn_tuple_reads c a ra.canLay rv.canLay (in_room rm hd) h
 ·intro z y rv ru h Z Z
  apply rv.str_el;intro t Z;apply ru.str_el;intro t' Z
  exact PyProof.Rows.notIn_str h
theorem op_cmp {op:CmpOp} {b:Bool} (rm:Room A 0) (rv:Rep W s.heap v x) (ru:Rep W s.heap u y) (e:cmpD op x y=some b) (h:Q (.bool b) s):wpAny (model prog w) A (compareOp op v u) Q E s:=by
 rcases op with _|_|_|_|_|_|_|_|_|_
 ·refine ea02 (iteE e) fun hc Z1=> ?_;subst Z1;exact op_eq rm rv ru hc h
 ·refine ea02 (iteE e) fun hc Z1=> ?_;subst Z1;exact op_ne rm rv ru hc h
 ·revert rv ru;apply c2_el e;clear e;intro a b' e rv ru
  apply rv.int_el;intro t;apply ru.int_el;intro t'
  exact PyProof.Rows.lt_int (e.symm▸h)
 ·revert rv ru;apply c2_el e;clear e;intro a b' e rv ru
  apply rv.int_el;intro t;apply ru.int_el;intro t'
  exact PyProof.Rows.le_int (e.symm▸h)
 ·revert rv ru;apply c2_el e;clear e;intro a b' e rv ru
  apply rv.int_el;intro t;apply ru.int_el;intro t'
  exact PyProof.Rows.gt_int (e.symm▸h)
 ·revert rv ru;apply c2_el e;clear e;intro a b' e rv ru
  apply rv.int_el;intro t;apply ru.int_el;intro t'
  exact PyProof.Rows.ge_int (e.symm▸h)
 ·revert rv ru h;apply isD_el e
  ·intro rv ru h;cases rv;cases ru;exact wpAny_is_self rfl h
  ·intro a rv ru h;cases ru;apply rv.int_el;intro t;exact wpAny_is_other rfl (fun z=>nomatch z) h
  ·intro a rv ru h;cases ru;apply rv.str_el;intro t Z;exact wpAny_is_other rfl (fun z=>nomatch z) h
 ·exact nnE e
 ·exact op_in rm rv ru e h
 ·refine ea12 (Option.map_eq_some_iff.mp e) fun b' hb Z2=> ?_;subst Z2
  exact op_notIn rm rv ru hb h
theorem op_tru {b:Bool} {Q:Bool->Shared->Prop} (rv:Rep W s.heap v x) (e:truD x=some b) (h:Q b s):wpAny (model prog w) A (truthy v) Q E s:=by
 cases rv with
 | bool c=>obtain rfl:=Option.some.inj e;exact wpAny_truthy_bool h
 | int i t=>obtain rfl:=Option.some.inj e;exact PyProof.Rows.truthy_int h
 | _=>exact nnE e
theorem seqIndex_is {i:Int} {n j:Nat} (e:seqIndex? i n=some j):(0<=i/\i<n/\j=i.toNat)\/(i<0 /\ -(n:Int)<=i/\j=(i+n).toNat):=by
 unfold seqIndex? at e
 by_cases h:i<0
 ·simp only [if_pos h] at e
  by_cases c:(decide (0<=i+(n:Int))&&decide (i+(n:Int)<n))=true
  ·rw [if_pos c] at e
   simp only [Bool.and_eq_true,decide_eq_true_eq] at c
   simp only [Option.some.injEq] at e
   exact .inr ⟨h,by exact H415 c.1,e.symm⟩
  ·rw [if_neg c] at e;exact nnE e
 ·simp only [if_neg h] at e
  by_cases c:(decide (0<=i)&&decide (i<(n:Int)))=true
  ·rw [if_pos c] at e
   simp only [Bool.and_eq_true,decide_eq_true_eq] at c
   simp only [Option.some.injEq] at e
   exact .inl ⟨by exact (fun {_ _} ↦ Int.not_lt.mp) h,by exact c.2,e.symm⟩
  ·rw [if_neg c] at e;exact nnE e
noncomputable def Seq1 (W:List Addr) (h:Heap) (v:Value) (d:D):Prop:=Rep W h v d \/ ∃ a vs n ds,v = .ref a/\d = .list ds/\a∈W/\h.get? a=some (lObj vs n)/\RepL W h vs ds
theorem Seq1.keeps {h h':Heap} (x:Seq1 W h v d) (hk : ∀ b o,h.get? b=some o->h'.get? b=some o):Seq1 W h' v d:=by
 rcases x with x|⟨a,vs,n,ds,h1,h2,h3,h4,h5⟩
 ·exact .inl (x.keeps hk)
 ·exact .inr ⟨a,vs,n,ds,h1,h2,h3,hk _ _ h4,h5.keeps hk⟩
theorem Seq1.list {h:Heap} {ds:List D} (x:Seq1 W h v (.list ds)) : ∃ a vs n,v = .ref a/\h.get? a=some (lObj vs n)/\RepL W h vs ds:=by
 rcases x with x|⟨a,vs,n,ds,h1,h2,h3,h4,h5⟩
 ·cases x with|list _ e r=>exact ⟨_,_,_,rfl,e,r⟩
 ·cases h2;exact ⟨_,_,_,h1,h4,h5⟩
theorem Seq1.rep {h:Heap} (x:Seq1 W h v d) (hd : ∀ ds,d ≠ .list ds):Rep W h v d:=by
 rcases x with x|⟨a,vs,n,ds,h1,h2,h3,h4,h5⟩
 ·exact x
 ·exact absurd h2 (hd _)
theorem strA_one {z:Str} {k:Nat} {c:Nat} (ha:strA z=true) (hc:z.cps[k]? = some c):strA ⟨#[c]⟩=true:=by
 unfold strA at ha ⊢
 rw [Array.all_eq_true] at ha
 obtain ⟨hlt,rfl⟩:=Array.getElem?_eq_some_iff.mp hc
 simpa using ha k hlt
theorem list_ix {a:Addr} {vs:List Value} {n k:Nat} {i:Int} {t:Tok} {r:Value} (ea:s.heap.get? a=some (lObj vs n)) (hi : -(2^63)<=i/\i<2^63) (hk:seqIndex? i vs.length=some k) (hr:vs[k]? = some r) (h:Q r s):wpAny (model prog w) A (getItem (.ref a) (.int i t)) Q E s:=by
 rcases seqIndex_is hk with ⟨h0,h1,h2⟩|⟨h0,h1,h2⟩
 ·exact wpAny_getItem_list (isList_of ea) h0 hi.2 (x:=r) (by refine lwr h2 ?_;simpa using hr) h
 ·exact wpAny_getItem_list_neg (isList_of ea) h0 h1 hi.1 (x:=r) (by refine rwl List.size_toArray (lwr h2 ?_);simpa using hr) h
theorem op_idx (rv:Seq1 W s.heap v x) (ru:Rep W s.heap u y) (e:idxD x y=some d) (h:Gives s W d Q) {value slice:Expr} (hs : ∃ ops,subscripted slice false v u=operate ops (getItem v u)) :
  wpAny (model prog w) A (subscriptTail value slice v u) Q E s:=by
 obtain ⟨ops,hs⟩:=hs
 revert rv ru h hs
 apply idxD_el e
 ·intro ds i k hi hk hd rv ru h hs
  revert hs
  apply ru.int_el;intro t hs
  refine ea33 rv.list fun a vs n Z3 ea ra=> ?_;subst Z3
  refine ea12 (ra.get hd) fun r hr rr=> ?_
  exact tail_any (isList_of ea).typeIs slot_list_getitem.lookup (list_ix ea hi (ra.length▸hk) hr (h _ _ (Ext.refl s) rr)) hs
 ·intro ds i k hi hk hd rv ru h hs
  revert hs
  apply ru.int_el;intro t hs
  have rv:=rv.rep fun Z z=>nomatch z
  revert hs;apply rv.tup_el;intro a vs n Z ea ra hs
  refine ea12 (ra.get hd) fun r hr rr=> ?_
  exact tail_any ⟨_,ea,rfl⟩ slot_tuple_getitem.lookup (PyProof.Rows.getItem_tuple ⟨_,ea,rfl,_,rfl⟩ (by exact hi.1) hi.2 (j:=k) (by refine rwl List.size_toArray (rwl ra.length ?_);exact hk) (x:=r) (by simpa using hr) (h _ _ (Ext.refl s) rr)) hs
 ·intro z i k c hi hk hc rv ru h hs
  revert hs
  apply ru.int_el;intro t hs
  have rv:=rv.rep fun Z z=>nomatch z
  revert hs;apply rv.str_el;intro t ha hs
  exact tail_any (typeIs_str _ _ _) slot_str_getitem.lookup (PyProof.Rows.getItem_str (c:=c) (by simp;exact hi) (by refine rwl hk ?_;exact hc) (h _ _ (Ext.toks s _) (.str _ _ (strA_one ha hc)))) hs
theorem RepL.filterMap {h:Heap} {vs:List Value} {ds:List D} (r:RepL W h vs ds) : ∀ l:List Nat,RepL W h (l.filterMap fun i=>vs[i]?) (l.filterMap fun i=>ds[i]?)
 | []=>by exact RepL.nil
 | i::l=>by
  have ih:=RepL.filterMap r l
  rcases e:ds[i]? with _|d
  ·have:vs[i]? = none:=by
    rw [List.getElem?_eq_none_iff] at e ⊢
    refine rwl r.length ?_;exact e
   simp only [List.filterMap_cons,e,this];exact ih
  ·refine ea12 (r.get e) fun v hv rv=> ?_
   simp only [List.filterMap_cons,e,hv]
   exact .cons rv ih
theorem strA_filterMap {z:Str} (ha:strA z=true) (l:List Nat):strA ⟨(l.filterMap fun k=>z.cps[k]?).toArray⟩=true:=by
 unfold strA at ha ⊢
 rw [Array.all_eq_true] at ha
 simp only [List.all_toArray,List.all_eq_true,List.mem_filterMap,decide_eq_true_eq]
 rintro c ⟨k,_,hk⟩
 refine ea11 (Array.getElem?_eq_some_iff.mp hk) fun hlt Z1=> ?_;subst Z1
 simpa using ha k hlt
theorem isPart_of {o:Option Int} (r:Rep W s.heap v x) (e:partD x=some o):IsPart v o:=by
 cases r with
 | none=>obtain rfl:=Option.some.inj e;exact .none
 | int i t=>obtain rfl:=Option.some.inj e;exact .int i t
 | _=>exact nnE e
theorem slD_el {x lo hi st d:D} {P:D->D->Prop} (e:slD x lo hi st=some d)
  (k1 : ∀ ds l h t,partD lo=some l->partD hi=some h->partD st=some t->t≠some 0/\ds.length<=szL->P (.list ds) (.list (pick ds l h t)))
  (k2 : ∀ z l h,partD lo=some l->partD hi=some h->partD st=some none->(Builtin.Str.strSliceIndices l h 1 z.length).length<=szL->P (.str z) (.str (if ((Builtin.Str.strSliceIndices l h 1 z.length).length==z.length)=true then z else ⟨((Builtin.Str.strSliceIndices l h 1 z.length).filterMap fun k=>z.cps[k]?).toArray⟩))):P x d:=by
 refine bindE e fun l hl e=>bindE e fun h hh e=>bindE e fun t ht e=> ?_
 rcases x with _|_|_|z|ds|_|_
 case list=>exact (iteE e).2▸k1 ds l h t hl hh ht (iteE e).1
 case str=>
  obtain ⟨⟨rfl,_,hc⟩,e'⟩:=iteE e
  exact e'▸k2 z l h hl hh ht hc
 all_goals exact nnE e
theorem sl_li {vl vh vt:Value} {l h t:Option Int} {a S:Addr} {vs:List Value} {n:Nat} (ea:s.heap.get? a=some (lObj vs n)) (hS:s.heap.get? S=some { cls:= .type "slice", data:= .fields #[vl,vh,vt] })
  (pl:IsPart vl l) (ph:IsPart vh h) (pt:IsPart vt t) (h0:t≠some 0) (hc:vs.length<=szL) (hq:Q (.ref s.heap.objs.size) { s with heap:=s.heap.push (lObj (pick vs l h t) 0) }):wpAny (model prog w) A (getItem (.ref a) (.ref S)) Q E s:=by
 refine wpAny_getItem_list_slice (isList_of ea) ⟨_,hS,rfl,rfl⟩ pl ph pt h0 ?_ (le_size hc)
 refine rwl (show slicePick vs.toArray l h t=(pick vs l h t).toArray by unfold slicePick pick sliceIx;simp) ?_
 exact hq
theorem RepL.pick {h:Heap} {vs:List Value} {ds:List D} (r:RepL W h vs ds) (l u t:Option Int):RepL W h (pick vs l u t) (pick ds l u t):=by
 unfold Mine.pick
 refine rwl r.length ?_
 exact r.filterMap _
theorem part_sl {l:Option Int} {v:Value} (p:IsPart v l) : ∃ l':Option (Int×Tok),l'.map (·.1)=l/\v=partValue l':=by
 cases p with
 | none=>exact ⟨none,rfl,rfl⟩
 | int i t=>exact ⟨some (i,t),rfl,rfl⟩
theorem op_sl {vl vh vt:Value} {lo hi st:D} {S:Addr} (rv:Seq1 W s.heap v x) (hW:Shut W s.heap) (rl:Rep W s.heap vl lo) (rh:Rep W s.heap vh hi) (rt:Rep W s.heap vt st) (e:slD x lo hi st=some d)
  (hS:s.heap.get? S=some { cls:= .type "slice", data:= .fields #[vl,vh,vt] }) (h:Gives s W d Q) {value slice:Expr} (hs : ∃ ops,subscripted slice false v (.ref S)=operate ops (getItem v (.ref S))) :
  wpAny (model prog w) A (subscriptTail value slice v (.ref S)) Q E s:=by
 obtain ⟨ops,hs⟩:=hs
 revert rv h
 apply slD_el e
 ·intro ds l hh t el eh et hc rv h
  refine ea33 rv.list fun a vs n Z3 ea ra=> ?_;subst Z3
  exact tail_any (isList_of ea).typeIs slot_list_getitem.lookup (sl_li ea hS (isPart_of rl el) (isPart_of rh eh) (isPart_of rt et) hc.1 (ra.length▸hc.2) (h _ _ (Ext.push' s _) (Rep.newL (ra.pick _ _ _) hW.live))) hs
 ·intro z l hh el eh et hc rv h
  have rv:=rv.rep fun Z z=>nomatch z
  revert hs;apply rv.str_el;intro tk ha hs
  have pt:=isPart_of rt et
  refine ea12 (part_sl (isPart_of rl el)) fun l' Z1 Z2=> ?_;subst Z1;subst Z2
  refine ea12 (part_sl (isPart_of rh eh)) fun h' Z1 Z2=> ?_;subst Z1;subst Z2
  cases pt
  refine tail_any (typeIs_str _ _ _) slot_str_getitem.lookup ?_ hs
  refine wpAny_getItem_str_slice (l:=l') (u:=h') (st:=none) ⟨_,hS,rfl,rfl⟩ rfl ?_
  by_cases hq:((Builtin.Str.strSliceIndices (l'.map (·.1)) (h'.map (·.1)) 1 z.length).length==z.length)=true
  ·rw [if_pos hq] at h
   refine rwl (show sliceMade z tk l' h' none = .val (.str z tk) from if_pos hq) ?_
   exact h _ _ (Ext.refl s) (.str _ _ ha)
  ·rw [if_neg hq] at h
   refine rwl (show sliceMade z tk l' h' none = .str ⟨((Builtin.Str.strSliceIndices (l'.map (·.1)) (h'.map (·.1)) 1 z.length).filterMap (z.cps[·]?)).toArray⟩ from if_neg hq) ?_
   refine ⟨?_,h _ _ (Ext.toks s _) (.str _ _ (strA_filterMap ha _))⟩
   show (List.toArray _).size<=sizeLine
   refine rwl List.size_toArray ?_
   exact Nat.le_trans (List.length_filterMap_le _ _) (le_size hc)
end
noncomputable abbrev Sc:=List (Str×NameKind)
structure EnvS (env:Env) (sc:Sc):Prop where
 kind:env.scope.kind = .function
 glob:env.globals=mainGlobals
 blt:env.builtins=builtinsNs
 loc : ∀ x,sc.lookup x=some .local->env.kindOf x=some .local
 cel : ∀ x,sc.lookup x=some .cell->env.kindOf x=some .cell /\ ∃ c,env.cells.lookup x=some c
 fre : ∀ x,sc.lookup x=some .free->(env.kindOf x=some .free\/env.kindOf x=some .cell) /\ ∃ c,env.cells.lookup x=some c
 glo : ∀ x,sc.lookup x=some .globalImplicit->env.kindOf x=some .globalImplicit
noncomputable def okN (sc:Sc) (x:Str):Bool:=(match sc.lookup x with|some .local=>true|some .cell=>true|some .free=>true|_=>false) && !(x==("__debug__" : Str)) && !(x==("__classdict__" : Str)) && !(x==(".0" : Str))
noncomputable def Holds (env:Env) (h:Heap) (x:Str) (v:Value):Prop:=
 (env.kindOf x=some .local /\ ∃ m,h.Ns env.locals m/\m x=some v) \/
 ((env.kindOf x=some .cell\/env.kindOf x=some .free) /\ ∃ c,env.cells.lookup x=some c/\h.IsCell c (some v))
theorem Holds.keeps {env:Env} {h h':Heap} {x:Str} {v:Value} (z:Holds env h x v) (hk : ∀ b o,h.get? b=some o->h'.get? b=some o):Holds env h' x v:=by
 rcases z with ⟨a,m,hn,hm⟩|⟨a,c,hc,hv⟩
 ·exact .inl ⟨a,m,hn.keeps hk,hm⟩
 ·exact .inr ⟨a,c,hc,hv.keeps hk⟩
structure Bears (W:List Addr) (env:Env) (h:Heap) (sc:Sc) (ρ:Loc):Prop where
 d : ∀ x d,okN sc x=true->lk ρ x = .d d -> ∃ v,Holds env h x v/\Rep W h v d
 o : ∀ x ds,okN sc x=true->lk ρ x = .o ds -> ∃ a vs n,Holds env h x (.ref a)/\a∈W/\h.get? a=some (lObj vs n)/\RepL W h vs ds
 v : ∀ x u,okN sc x=true->lk ρ x = .v u->Holds env h x u
theorem Bears.keeps {W:List Addr} {env:Env} {h h':Heap} {sc:Sc} {ρ:Loc} (b:Bears W env h sc ρ) (hk : ∀ b o,h.get? b=some o->h'.get? b=some o):Bears W env h' sc ρ:=
 ⟨fun x d a e=>let ⟨v,p,q⟩:=b.d x d a e;⟨v,p.keeps hk,q.keeps hk⟩,fun x ds a e=>ea34 (b.o x ds a e) fun c vs n p q r t=>⟨c,vs,n,p.keeps hk,q,hk _ _ r,t.keeps hk⟩,fun x u a e=>(b.v x u a e).keeps hk⟩
noncomputable def Glob (h:Heap) (x:Str) (v:Value):Prop:=
 (∃ mg,h.Ns mainGlobals mg/\mg x=some v)\/(∃ mg mb,h.Ns mainGlobals mg/\mg x=none/\h.Ns builtinsNs mb/\mb x=some v)
noncomputable def bltV (f:Str):Option Value:=
 if f==Str.ofString "len" then some (.builtin "len")
 else if f==Str.ofString "sum" then some (.builtin "sum")
 else if f==Str.ofString "max" then some (.builtin "max")
 else if f==Str.ofString "sorted" then some (.builtin "sorted")
 else if f==Str.ofString "str" then some (.type "str")
 else if f==Str.ofString "int" then some (.type "int")
 else if f==Str.ofString "range" then some (.type "range")
 else if f==Str.ofString "enumerate" then some (.type "enumerate")
 else none
structure TopS (T:Heap->Prop) (F:Str->Option Addr):Prop where
 mono : ∀ h h',T h->(∀ b o,h.get? b=some o->h'.get? b=some o)->T h'
 fn : ∀ h,T h -> ∀ f a,F f=some a->Glob h f (.ref a) /\ ∃ o fd,h.get? a=some o/\o.data = .func fd
 blt : ∀ h,T h -> ∀ f v,bltV f=some v->Glob h f v
section
variable {M:Model} {A:Around} {E:Value->Shared->Prop} {s:Shared} {env:Env} {sc:Sc} {Q:Value->Shared->Prop} {x:Str} {v:Value} {pos:Pos}
theorem name_holds (es:EnvS env sc) (hx:okN sc x=true) (z:Holds env s.heap x v) (h:Q v s):wpAny M A (eval (.Name x pos) env) Q E s:=by
 unfold okN at hx
 simp only [Bool.and_eq_true,Bool.not_eq_true'] at hx
 refine wpAny_Name ?_ hx.1.1.2
 rcases z with ⟨a,m,hn,hm⟩|⟨a|a,c,hc,hv⟩
 ·exact wpAny_loadName_local es.kind a hn hm h
 ·exact wpAny_loadName_cell es.kind a hc hv h
 ·exact wpAny_loadName_free es.kind a hc hv h hx.1.2
theorem name_glob (es:EnvS env sc) (hx:sc.lookup x=some .globalImplicit) (hd:(x==("__debug__" : Str))=false) (g:Glob s.heap x v) (h:Q v s):wpAny M A (eval (.Name x pos) env) Q E s:=by
 refine Name_function_global es.kind (es.glo x hx) ?_ hd
 rcases g with ⟨mg,hg,hm⟩|⟨mg,mb,hg,hn,hb,hm⟩
 ·exact loadGlobal_global (es.glob▸hg) hm h
 ·exact loadGlobal_builtin (es.glob▸hg) hn (es.blt▸hb) hm h
end
noncomputable def onBoolOp (e:Expr) (f:BoolOp->List Expr->Pos->Bool):Bool:=if h:e.ctorIdx=0 then Expr.BoolOp.elim (motive_1:=fun Z=>Bool) e h f else false
theorem onBoolOp_el {e} {f:BoolOp->List Expr->Pos->Bool} {P:Expr->Prop} (h:onBoolOp e f=true) (k : ∀ a b c,f a b c=true->P (.BoolOp a b c)):P e:=have ⟨q,h⟩:=dtrue h;Expr.BoolOp.elim (motive_1:=fun e=> ∀ q,Expr.BoolOp.elim (motive_1:=fun Z=>Bool) e q f=true->P e) e q (fun Z Z Z Z h=>k _ _ _ h) q h
noncomputable def onBinOp (e:Expr) (f:Expr->Operator->Expr->Pos->Bool):Bool:=if h:e.ctorIdx=2 then Expr.BinOp.elim (motive_1:=fun Z=>Bool) e h f else false
theorem onBinOp_el {e} {f:Expr->Operator->Expr->Pos->Bool} {P:Expr->Prop} (h:onBinOp e f=true) (k : ∀ a b c d,f a b c d=true->P (.BinOp a b c d)):P e:=have ⟨q,h⟩:=dtrue h;Expr.BinOp.elim (motive_1:=fun e=> ∀ q,Expr.BinOp.elim (motive_1:=fun Z=>Bool) e q f=true->P e) e q (fun Z Z Z Z Z h=>k _ _ _ _ h) q h
noncomputable def onUnaryOp (e:Expr) (f:UnaryOp->Expr->Pos->Bool):Bool:=if h:e.ctorIdx=3 then Expr.UnaryOp.elim (motive_1:=fun Z=>Bool) e h f else false
theorem onUnaryOp_el {e} {f:UnaryOp->Expr->Pos->Bool} {P:Expr->Prop} (h:onUnaryOp e f=true) (k : ∀ a b c,f a b c=true->P (.UnaryOp a b c)):P e:=have ⟨q,h⟩:=dtrue h;Expr.UnaryOp.elim (motive_1:=fun e=> ∀ q,Expr.UnaryOp.elim (motive_1:=fun Z=>Bool) e q f=true->P e) e q (fun Z Z Z Z h=>k _ _ _ h) q h
noncomputable def onIfExp (e:Expr) (f:Expr->Expr->Expr->Pos->Bool):Bool:=if h:e.ctorIdx=5 then Expr.IfExp.elim (motive_1:=fun Z=>Bool) e h f else false
theorem onIfExp_el {e} {f:Expr->Expr->Expr->Pos->Bool} {P:Expr->Prop} (h:onIfExp e f=true) (k : ∀ a b c d,f a b c d=true->P (.IfExp a b c d)):P e:=have ⟨q,h⟩:=dtrue h;Expr.IfExp.elim (motive_1:=fun e=> ∀ q,Expr.IfExp.elim (motive_1:=fun Z=>Bool) e q f=true->P e) e q (fun Z Z Z Z Z h=>k _ _ _ _ h) q h
noncomputable def onListComp (e:Expr) (f:Expr->List Comprehension->Scope->Pos->Bool):Bool:=if h:e.ctorIdx=8 then Expr.ListComp.elim (motive_1:=fun Z=>Bool) e h f else false
theorem onListComp_el {e} {f:Expr->List Comprehension->Scope->Pos->Bool} {P:Expr->Prop} (h:onListComp e f=true) (k : ∀ a b c d,f a b c d=true->P (.ListComp a b c d)):P e:=have ⟨q,h⟩:=dtrue h;Expr.ListComp.elim (motive_1:=fun e=> ∀ q,Expr.ListComp.elim (motive_1:=fun Z=>Bool) e q f=true->P e) e q (fun Z Z Z Z Z h=>k _ _ _ _ h) q h
noncomputable def onCompare (e:Expr) (f:Expr->List CmpOp->List Expr->Pos->Bool):Bool:=if h:e.ctorIdx=15 then Expr.Compare.elim (motive_1:=fun Z=>Bool) e h f else false
theorem onCompare_el {e} {f:Expr->List CmpOp->List Expr->Pos->Bool} {P:Expr->Prop} (h:onCompare e f=true) (k : ∀ a b c d,f a b c d=true->P (.Compare a b c d)):P e:=have ⟨q,h⟩:=dtrue h;Expr.Compare.elim (motive_1:=fun e=> ∀ q,Expr.Compare.elim (motive_1:=fun Z=>Bool) e q f=true->P e) e q (fun Z Z Z Z Z h=>k _ _ _ _ h) q h
noncomputable def onCall (e:Expr) (f:Expr->List Expr->List Keyword->Pos->Bool):Bool:=if h:e.ctorIdx=16 then Expr.Call.elim (motive_1:=fun Z=>Bool) e h f else false
theorem onCall_el {e} {f:Expr->List Expr->List Keyword->Pos->Bool} {P:Expr->Prop} (h:onCall e f=true) (k : ∀ a b c d,f a b c d=true->P (.Call a b c d)):P e:=have ⟨q,h⟩:=dtrue h;Expr.Call.elim (motive_1:=fun e=> ∀ q,Expr.Call.elim (motive_1:=fun Z=>Bool) e q f=true->P e) e q (fun Z Z Z Z Z h=>k _ _ _ _ h) q h
noncomputable def onConstant (e:Expr) (f:Const->Nat->Pos->Bool):Bool:=if h:e.ctorIdx=19 then Expr.Constant.elim (motive_1:=fun Z=>Bool) e h f else false
theorem onConstant_el {e} {f:Const->Nat->Pos->Bool} {P:Expr->Prop} (h:onConstant e f=true) (k : ∀ a b c,f a b c=true->P (.Constant a b c)):P e:=have ⟨q,h⟩:=dtrue h;Expr.Constant.elim (motive_1:=fun e=> ∀ q,Expr.Constant.elim (motive_1:=fun Z=>Bool) e q f=true->P e) e q (fun Z Z Z Z h=>k _ _ _ h) q h
noncomputable def onAttribute (e:Expr) (f:Expr->Str->Pos->Bool):Bool:=if h:e.ctorIdx=20 then Expr.Attribute.elim (motive_1:=fun Z=>Bool) e h f else false
theorem onAttribute_el {e} {f:Expr->Str->Pos->Bool} {P:Expr->Prop} (h:onAttribute e f=true) (k : ∀ a b c,f a b c=true->P (.Attribute a b c)):P e:=have ⟨q,h⟩:=dtrue h;Expr.Attribute.elim (motive_1:=fun e=> ∀ q,Expr.Attribute.elim (motive_1:=fun Z=>Bool) e q f=true->P e) e q (fun Z Z Z Z h=>k _ _ _ h) q h
noncomputable def onSubscript (e:Expr) (f:Expr->Expr->Pos->Bool):Bool:=if h:e.ctorIdx=21 then Expr.Subscript.elim (motive_1:=fun Z=>Bool) e h f else false
theorem onSubscript_el {e} {f:Expr->Expr->Pos->Bool} {P:Expr->Prop} (h:onSubscript e f=true) (k : ∀ a b c,f a b c=true->P (.Subscript a b c)):P e:=have ⟨q,h⟩:=dtrue h;Expr.Subscript.elim (motive_1:=fun e=> ∀ q,Expr.Subscript.elim (motive_1:=fun Z=>Bool) e q f=true->P e) e q (fun Z Z Z Z h=>k _ _ _ h) q h
noncomputable def onName (e:Expr) (f:Str->Pos->Bool):Bool:=if h:e.ctorIdx=23 then Expr.Name.elim (motive_1:=fun Z=>Bool) e h f else false
theorem onName_el {e} {f:Str->Pos->Bool} {P:Expr->Prop} (h:onName e f=true) (k : ∀ a b,f a b=true->P (.Name a b)):P e:=have ⟨q,h⟩:=dtrue h;Expr.Name.elim (motive_1:=fun e=> ∀ q,Expr.Name.elim (motive_1:=fun Z=>Bool) e q f=true->P e) e q (fun Z Z Z h=>k _ _ h) q h
noncomputable def onList (e:Expr) (f:List Expr->Pos->Bool):Bool:=if h:e.ctorIdx=24 then Expr.List.elim (motive_1:=fun Z=>Bool) e h f else false
theorem onList_el {e} {f:List Expr->Pos->Bool} {P:Expr->Prop} (h:onList e f=true) (k : ∀ a b,f a b=true->P (.List a b)):P e:=have ⟨q,h⟩:=dtrue h;Expr.List.elim (motive_1:=fun e=> ∀ q,Expr.List.elim (motive_1:=fun Z=>Bool) e q f=true->P e) e q (fun Z Z Z h=>k _ _ h) q h
noncomputable def onTuple (e:Expr) (f:List Expr->Nat->Pos->Bool):Bool:=if h:e.ctorIdx=25 then Expr.Tuple.elim (motive_1:=fun Z=>Bool) e h f else false
theorem onTuple_el {e} {f:List Expr->Nat->Pos->Bool} {P:Expr->Prop} (h:onTuple e f=true) (k : ∀ a b c,f a b c=true->P (.Tuple a b c)):P e:=have ⟨q,h⟩:=dtrue h;Expr.Tuple.elim (motive_1:=fun e=> ∀ q,Expr.Tuple.elim (motive_1:=fun Z=>Bool) e q f=true->P e) e q (fun Z Z Z Z h=>k _ _ _ h) q h
noncomputable def onSlice (e:Expr) (f:Option Expr->Option Expr->Option Expr->Pos->Bool):Bool:=if h:e.ctorIdx=26 then Expr.Slice.elim (motive_1:=fun Z=>Bool) e h f else false
theorem onSlice_el {e} {f:Option Expr->Option Expr->Option Expr->Pos->Bool} {P:Expr->Prop} (h:onSlice e f=true) (k : ∀ a b c d,f a b c d=true->P (.Slice a b c d)):P e:=have ⟨q,h⟩:=dtrue h;Expr.Slice.elim (motive_1:=fun e=> ∀ q,Expr.Slice.elim (motive_1:=fun Z=>Bool) e q f=true->P e) e q (fun Z Z Z Z Z h=>k _ _ _ _ h) q h
noncomputable def onSReturn (e:Stmt) (f:Option Expr->Pos->Bool):Bool:=if h:e.ctorIdx=3 then Stmt.Return.elim (motive_2:=fun Z=>Bool) e h f else false
theorem onSReturn_el {e} {f:Option Expr->Pos->Bool} {P:Stmt->Prop} (h:onSReturn e f=true) (k : ∀ a b,f a b=true->P (.Return a b)):P e:=have ⟨q,h⟩:=dtrue h;Stmt.Return.elim (motive_2:=fun e=> ∀ q,Stmt.Return.elim (motive_2:=fun Z=>Bool) e q f=true->P e) e q (fun Z Z Z h=>k _ _ h) q h
noncomputable def onSAssign (e:Stmt) (f:List Expr->Expr->Pos->Bool):Bool:=if h:e.ctorIdx=5 then Stmt.Assign.elim (motive_2:=fun Z=>Bool) e h f else false
theorem onSAssign_el {e} {f:List Expr->Expr->Pos->Bool} {P:Stmt->Prop} (h:onSAssign e f=true) (k : ∀ a b c,f a b c=true->P (.Assign a b c)):P e:=have ⟨q,h⟩:=dtrue h;Stmt.Assign.elim (motive_2:=fun e=> ∀ q,Stmt.Assign.elim (motive_2:=fun Z=>Bool) e q f=true->P e) e q (fun Z Z Z Z h=>k _ _ _ h) q h
noncomputable def onSAugAssign (e:Stmt) (f:Expr->Operator->Expr->Pos->Bool):Bool:=if h:e.ctorIdx=7 then Stmt.AugAssign.elim (motive_2:=fun Z=>Bool) e h f else false
theorem onSAugAssign_el {e} {f:Expr->Operator->Expr->Pos->Bool} {P:Stmt->Prop} (h:onSAugAssign e f=true) (k : ∀ a b c d,f a b c d=true->P (.AugAssign a b c d)):P e:=have ⟨q,h⟩:=dtrue h;Stmt.AugAssign.elim (motive_2:=fun e=> ∀ q,Stmt.AugAssign.elim (motive_2:=fun Z=>Bool) e q f=true->P e) e q (fun Z Z Z Z Z h=>k _ _ _ _ h) q h
noncomputable def onSFor (e:Stmt) (f:Expr->Expr->List Stmt->List Stmt->Pos->Bool):Bool:=if h:e.ctorIdx=9 then Stmt.For.elim (motive_2:=fun Z=>Bool) e h f else false
theorem onSFor_el {e} {f:Expr->Expr->List Stmt->List Stmt->Pos->Bool} {P:Stmt->Prop} (h:onSFor e f=true) (k : ∀ a b c d g,f a b c d g=true->P (.For a b c d g)):P e:=have ⟨q,h⟩:=dtrue h;Stmt.For.elim (motive_2:=fun e=> ∀ q,Stmt.For.elim (motive_2:=fun Z=>Bool) e q f=true->P e) e q (fun Z Z Z Z Z Z h=>k _ _ _ _ _ h) q h
noncomputable def onSWhile (e:Stmt) (f:Expr->List Stmt->List Stmt->Pos->Bool):Bool:=if h:e.ctorIdx=11 then Stmt.While.elim (motive_2:=fun Z=>Bool) e h f else false
theorem onSWhile_el {e} {f:Expr->List Stmt->List Stmt->Pos->Bool} {P:Stmt->Prop} (h:onSWhile e f=true) (k : ∀ a b c d,f a b c d=true->P (.While a b c d)):P e:=have ⟨q,h⟩:=dtrue h;Stmt.While.elim (motive_2:=fun e=> ∀ q,Stmt.While.elim (motive_2:=fun Z=>Bool) e q f=true->P e) e q (fun Z Z Z Z Z h=>k _ _ _ _ h) q h
noncomputable def onSIf (e:Stmt) (f:Expr->List Stmt->List Stmt->Pos->Bool):Bool:=if h:e.ctorIdx=12 then Stmt.If.elim (motive_2:=fun Z=>Bool) e h f else false
theorem onSIf_el {e} {f:Expr->List Stmt->List Stmt->Pos->Bool} {P:Stmt->Prop} (h:onSIf e f=true) (k : ∀ a b c d,f a b c d=true->P (.If a b c d)):P e:=have ⟨q,h⟩:=dtrue h;Stmt.If.elim (motive_2:=fun e=> ∀ q,Stmt.If.elim (motive_2:=fun Z=>Bool) e q f=true->P e) e q (fun Z Z Z Z Z h=>k _ _ _ _ h) q h
noncomputable def onSExpr (e:Stmt) (f:Expr->Pos->Bool):Bool:=if h:e.ctorIdx=24 then Stmt.Expr.elim (motive_2:=fun Z=>Bool) e h f else false
theorem onSExpr_el {e} {f:Expr->Pos->Bool} {P:Stmt->Prop} (h:onSExpr e f=true) (k : ∀ a b,f a b=true->P (.Expr a b)):P e:=have ⟨q,h⟩:=dtrue h;Stmt.Expr.elim (motive_2:=fun e=> ∀ q,Stmt.Expr.elim (motive_2:=fun Z=>Bool) e q f=true->P e) e q (fun Z Z Z h=>k _ _ h) q h
noncomputable def on1 {α:Type} (l:List α) (f:α->Bool):Bool:=match l with|a::r=>r.isEmpty&&f a|[]=>false
theorem on1_el {α:Type} {l:List α} {f:α->Bool} {P:List α->Prop} (h:on1 l f=true) (k : ∀ a,f a=true->P [a]):P l:=match l,h with
 | a::_,h=>nilB (andB h).1▸k a (andB h).2
noncomputable def on2 {α:Type} (l:List α) (f:α->α->Bool):Bool:=match l with|a::r=>on1 r (f a)|[]=>false
theorem on2_el {α:Type} {l:List α} {f:α->α->Bool} {P:List α->Prop} (h:on2 l f=true) (k : ∀ a b,f a b=true->P [a,b]):P l:=match l,h with
 | a::_,h=>on1_el (f:=f a) (P:=fun r=>P (a::r)) h (k a)
noncomputable def onInt (c:Const) (f:Int->Bool):Bool:=match c with | .int i=>f i|_=>false
theorem onInt_el {c:Const} {f:Int->Bool} {P:Const->Prop} (h:onInt c f=true) (k : ∀ i,f i=true->P (.int i)):P c:=by rcases c with _|_|_|_|_|_|_|_<;>first|exact k _ h|exact ff h
noncomputable def onTxt (c:Const) (f:Str->Bool):Bool:=match c with | .str i=>f i|_=>false
theorem onTxt_el {c:Const} {f:Str->Bool} {P:Const->Prop} (h:onTxt c f=true) (k : ∀ i,f i=true->P (.str i)):P c:=by rcases c with _|_|_|_|_|_|_|_<;>first|exact k _ h|exact ff h
noncomputable def onI (c:D) (f:Int->Bool):Bool:=match c with | .int i=>f i|_=>false
theorem onI_el {c:D} {f:Int->Bool} {P:D->Prop} (h:onI c f=true) (k : ∀ i,f i=true->P (.int i)):P c:=by rcases c with _|_|_|_|_|_|_<;>first|exact k _ h|exact ff h
noncomputable def constIs (d:D) (c:Const):Bool:=match c with
 | .none=>(match d with | .none=>true|_=>false)
 | .bool a=>(match d with | .bool b=>b==a|_=>false)
 | .int a=>(match d with | .int b=>b==a|_=>false)
 | .str a=>(match d with | .str b=>b==a&&strA b|_=>false)
 | _=>false
noncomputable def plainBase (e:Expr):Bool:=onName e (fun Z Z=>true) || onSubscript e (fun Z Z Z=>true) || onConstant e fun Z Z Z=>true
noncomputable def tgOk:Tg->Expr->Bool
 | .n x=>fun e=>onName e fun y Z=>x==y
 | .t xs=>fun e=>on2 xs fun a b=>onTuple e fun l Z Z=>on2 l fun p q=>onName p fun c Z=>onName q fun d Z=>a==c&&b==d
theorem tgt_el {xs:List Str} {e:Expr} {P:List Str->Expr->Prop} (h:tgOk (.t xs) e=true) (k : ∀ a b p q n r,P [a,b] (.Tuple [.Name a p,.Name b q] n r)):P xs e:=by
 apply on2_el (P:=fun xs=>P xs e) h;intro a b h
 apply onTuple_el h;clear h;intro l n r h
 apply on2_el h;clear h;intro p q h
 apply onName_el h;clear h;intro c Z h
 apply onName_el h;clear h;intro d Z h
 refine and2 h fun h1 h2=> ?_
 clear h;obtain rfl:=eqB h1;obtain rfl:=eqB h2;exact k a b _ _ n r
theorem tgn_el {x:Str} {e:Expr} {P:Expr->Prop} (h:tgOk (.n x) e=true) (k : ∀ p,P (.Name x p)):P e:=by
 apply onName_el h;clear h;intro c p h
 obtain rfl:=eqB h;exact k p
theorem bindT2 {a b:Str} {d:D} {ρ ρ':Loc} (h:bindT (.t [a,b]) d ρ=some ρ') : ∃ d1 d2,items? d=some [d1,d2]/\upd (upd ρ a (.d d1)) b (.d d2)=ρ':=by
 replace h:(match items? d with|some ds=>if ds.length=2 then some (([a,b].zip ds).foldl (fun ρ p=>upd ρ p.1 (.d p.2)) ρ) else none|none=>none)=some ρ':=h
 revert h;cases items? d with
 | none=>exact fun h=>nomatch h
 | some ds=>exact fun h=>match ds,(iteE h).1,(iteE h).2 with
  | [_,_],_,e=>⟨_,_,rfl,e⟩
noncomputable def scOk (sc:Sc) (tgs:List Str) (names:Sc):Bool:=
 names.all (fun p=>match p.2 with
  | .local=>p.1==(".0" : Str) || tgs.contains p.1
  | .cell=>tgs.contains p.1
  | .free=>(match sc.lookup p.1 with|some .cell=>true|some .free=>true|_=>false) && !tgs.contains p.1
  | .globalImplicit=>true
  | .globalExplicit=>false) &&
 decide (names.map (·.1)).Nodup&&tgs.all (fun x=>(match names.lookup x with|some .local=>true|some .cell=>true|_=>false)&&okN names x)&&decide tgs.Nodup
noncomputable def notStar (e:Expr):Bool:= !(e.ctorIdx==22)
noncomputable def noneOr (m:ME):Bool:=match m with | .c .none=>true|_=>false
noncomputable def itOk (e:Expr):Bool:= !(e.ctorIdx==7)
noncomputable def onGen (g:Comprehension) (f:Expr->Expr->List Expr->Bool):Bool:=match g with|⟨t,i,fs,k⟩=>k==0&&f t i fs
theorem onGen_el {g:Comprehension} {f:Expr->Expr->List Expr->Bool} {P:Comprehension->Prop} (h:onGen g f=true) (k : ∀ t i fs,f t i fs=true->P ⟨t,i,fs,0⟩):P g:=match g,h with
 | ⟨t,i,fs,_⟩,h=>eqB (andB h).1▸k t i fs (andB h).2
noncomputable def onRng (sc:Sc) (i:Expr) (f:Expr->Bool):Bool:=onCall i fun c xs ks Z=>onName c fun g Z=>on1 xs fun y=>ks.isEmpty&&g==("range" : Str)&&sc.lookup g==some .globalImplicit&&f y&&notStar y
mutual
noncomputable def mt:ME->Sc->Expr->Bool
 | .c d=>fun Z e=>(onConstant e fun c Z Z=>constIs d c) || onUnaryOp e fun o x Z=>o == .USub&&onConstant x fun c Z Z=>onInt c fun i=>onI d fun j=>j == -i
 | .var x=>fun sc e=>onName e fun y Z=>x==y&&okN sc x
 | .own x=>fun sc e=>onName e fun y Z=>x==y&&okN sc x
 | .bin op a b=>fun sc e=>onBinOp e fun l o r Z=>o==op&&mt a sc l&&mt b sc r
 | .cmp op a b=>fun sc e=>onCompare e fun l os rs Z=>on1 os fun o=>on1 rs fun r=>o==op&&mt a sc l&&mt b sc r && !behindInMarks op r
 | .chn o1 o2 a b c=>fun sc e=>onCompare e fun l os rs Z=>on2 os fun p q=>on2 rs fun r t=>p==o1&&q==o2&&mt a sc l&&mt b sc r&&mt c sc t && !behindInMarks o1 r && !behindInMarks o2 t
 | .bop op es=>fun sc e=>onBoolOp e fun o vs Z=>o==op && !vs.isEmpty&&mtL es sc vs
 | .ite c a b=>fun sc e=>onIfExp e fun t x y Z=>mt c sc t&&mt a sc x&&mt b sc y
 | .call f as=>fun sc e=>onCall e fun c xs ks Z=>onName c fun g Z=>ks.isEmpty&&f==g && !(f==("__debug__" : Str))&&sc.lookup f==some .globalImplicit&&mtL as sc xs&&decide (0<xs.length/\xs.length<=20)
 | .blt f a=>fun sc e=>onCall e fun c xs ks Z=>onName c fun g Z=>on1 xs fun x=>ks.isEmpty&&f==g && !(f==("__debug__" : Str))&&sc.lookup f==some .globalImplicit&&mt a sc x&&notStar x
 | .met f a=>fun sc e=>onCall e fun c xs ks p=>onAttribute c fun o n ap=>ks.isEmpty&&xs.isEmpty&&f==n&&mt a sc o&&plainBase o&&ap.endLine==p.line&&(f==("lower" : Str) || f==("upper" : Str))
 | .join sep a=>fun sc e=>onCall e fun c xs ks p=>onAttribute c fun o n ap=>onConstant o fun t Z Z=>onTxt t fun y=>on1 xs fun x=>ks.isEmpty&&n==("join" : Str)&&sep==y&&strA sep&&mt a sc x&&notStar x&&ap.endLine==p.line
 | .idx a i=>fun sc e=>onSubscript e fun v j Z=>mt a sc v&&mt i sc j
 | .sl a lo hi st=>fun sc e=>onSubscript e fun v i Z=>onSlice i fun l u t Z=>mt a sc v&&(match l with|some l=>mt lo sc l|none=>noneOr lo)&&(match u with|some u=>mt hi sc u|none=>noneOr hi)&&(match t with|some t=>mt st sc t|none=>noneOr st)
 | .list es=>fun sc e=>onList e fun xs Z=>mtL es sc xs&&decide (xs.length<=1000)
 | .tup es=>fun sc e=>onTuple e fun xs Z Z=>mtL es sc xs&&decide (xs.length<=1000)
 | .comp elt tg r it cs=>fun sc e=>onListComp e fun x gs scope Z=>on1 gs fun g=>onGen g fun t i fs=>tgOk tg t&&scOk sc (tgNames tg) scope.names&&scope.kind == .function&&itOk i &&
    (if r then onRng sc i (mt it sc) else mt it sc i)&&mtL cs scope.names fs&&mt elt scope.names x
 | .comp2 elt t1 i1 t2 i2=>fun sc e=>onListComp e fun x gs scope Z=>on2 gs fun g g'=>onGen g fun t i fs=>onGen g' fun t' i' fs'=>fs.isEmpty&&fs'.isEmpty&&tgOk t1 t&&tgOk t2 t'&&scOk sc (tgNames t1++tgNames t2) scope.names&&scope.kind == .function&&itOk i&&itOk i'&&mt i1 sc i&&mt i2 scope.names i'&&mt elt scope.names x
 | .om x f as=>fun sc e=>onCall e fun c xs ks p=>onAttribute c fun o n ap=>onName o fun y Z=>ks.isEmpty&&x==y&&okN sc x&&f==n&&mtL as sc xs&&ap.endLine==p.line&&decide (xs.length<20)
 | .dg x a b=>fun sc e=>onCall e fun c xs ks pp=>onAttribute c fun o n ap=>onName o fun y Z=>on2 xs fun p q=>ks.isEmpty&&x==y && !(x==("__debug__" : Str))&&sc.lookup x==some .globalImplicit&&n==("get" : Str)&&mt a sc p&&mt b sc q&&notStar p&&notStar q&&ap.endLine==pp.line
 | .g x=>fun sc e=>onName e fun y Z=>x==y&&sc.lookup x==some .globalImplicit && !(x==("__debug__" : Str))
noncomputable def mtL:MEs->Sc->List Expr->Bool
 | .nil=>fun Z es=>es.isEmpty
 | .cons m r=>fun sc es=>match es with|e::es=>notStar e&&mt m sc e&&mtL r sc es|[]=>false
end
structure Chg (P:Addr->Prop) (G:Nat->Prop) (s s':Shared):Prop where
 keep : ∀ b o,¬ P b->s.heap.get? b=some o->s'.heap.get? b=some o
 os:s'.os=s.os
 gen : ∀ (j:Nat) x,¬ G j->s.gens[j]? = some x->s'.gens[j]? = some x
 bare:(∀ x∈s.gens,x.bare=true) -> ∀ x∈s'.gens,x.bare=true
theorem Chg.refl {P:Addr->Prop} {G:Nat->Prop} (s:Shared):Chg P G s s:=⟨fun Z Z Z e=>e,rfl,fun Z Z Z e=>e,fun h=>h⟩
theorem Chg.trans {P:Addr->Prop} {G:Nat->Prop} {a b c:Shared} (x:Chg P G a b) (y:Chg P G b c):Chg P G a c:=
 ⟨fun d o n e=>y.keep d o n (x.keep d o n e),y.os.trans x.os,fun i v n e=>y.gen i v n (x.gen i v n e),fun h=>y.bare (x.bare h)⟩
theorem Chg.mono {P P':Addr->Prop} {G G':Nat->Prop} {a b:Shared} (x:Chg P G a b) (hp : ∀ c,P c->P' c) (hg : ∀ c,G c->G' c):Chg P' G' a b:=
 ⟨fun d o n e=>x.keep d o (fun z=>n (hp d z)) e,x.os,fun i v n e=>x.gen i v (fun z=>n (hg i z)) e,x.bare⟩
theorem Ext.chg {P:Addr->Prop} {G:Nat->Prop} {a b:Shared} (x:Ext a b):Chg P G a b:=⟨fun d o Z e=>x.keep d o e,x.os,fun i v Z e=>x.gen i v e,x.bare⟩
theorem Chg.ext {P:Addr->Prop} {G:Nat->Prop} {a b:Shared} (x:Chg P G a b) (hp : ∀ c,P c->a.heap.get? c=none) (hg : ∀ j,G j->a.gens[j]? = none):Ext a b:=
 ⟨fun d o e=>x.keep d o (fun z=>by rw [hp d z] at e;cases e) e,x.os,fun i v e=>x.gen i v (fun z=>by rw [hg i z] at e;cases e) e,x.bare⟩
theorem Chg.one {s:Shared} {a:Addr} {h':Heap} (t:Nat) (hs:Heap.SameBut a s.heap h'):Chg (·= a) (fun Z=>False) s { s with heap:=h',toks:=t }:=
 ⟨fun b o hb e=>(hs.2 b hb).trans e,rfl,fun Z Z Z e=>e,fun h=>h⟩
theorem Shut.chg {W:List Addr} {P:Addr->Prop} {G:Nat->Prop} {s s':Shared} (x:Shut W s.heap) (c:Chg P G s s') (hp : ∀ a∈W,¬ P a):Shut W s'.heap:=fun a ha=>ea21 (x a ha) fun vs n e=>⟨vs,n,c.keep a _ (hp a ha) e⟩
noncomputable def Blind (W:List Addr) (h:Heap) (P:Addr->Prop):Prop:= ∀ a,P a->a∈W \/ ∀ o,h.get? a=some o -> ¬ isSeq o
theorem Rep.chg {W:List Addr} {P:Addr->Prop} {G:Nat->Prop} {s s':Shared} {v:Value} {d:D} (r:Rep W s.heap v d) (c:Chg P G s s') (hb:Blind W s.heap P):Rep W s'.heap v d:=
 r.mono fun a o ha hq e=>⟨ha,c.keep a o (fun hp=>by
  rcases hb a hp with h1|h1
  ·exact ha h1
  ·exact h1 o e hq) e⟩
theorem RepL.chg {W:List Addr} {P:Addr->Prop} {G:Nat->Prop} {s s':Shared} {v:List Value} {d:List D} (r:RepL W s.heap v d) (c:Chg P G s s') (hb:Blind W s.heap P):RepL W s'.heap v d:=
 r.mono fun a o ha hq e=>⟨ha,c.keep a o (fun hp=>by
  rcases hb a hp with h1|h1
  ·exact ha h1
  ·exact h1 o e hq) e⟩
theorem not_seq_ns {h:Heap} {a:Addr} {m:Str->Option Value} (hn:h.Ns a m) : ∀ o,h.get? a=some o -> ¬ isSeq o:=by
 obtain ⟨o',es,ep,ho,hd,_⟩:=hn
 intro o e
 rw [ho] at e;obtain rfl:=Option.some.inj e
 rintro ⟨vs,n,rfl|rfl⟩<;>cases hd
theorem not_seq_cell {h:Heap} {a:Addr} {v:Option Value} (hc:h.IsCell a v) : ∀ o,h.get? a=some o -> ¬ isSeq o:=by
 obtain ⟨o',ho,hd⟩:=hc
 intro o e
 rw [ho] at e;obtain rfl:=Option.some.inj e
 rintro ⟨vs,n,rfl|rfl⟩<;>cases hd
structure FrameS (env:Env) (h:Heap):Prop where
 ns : ∃ m,h.Ns env.locals m
 cells : ∀ x c,env.cells.lookup x=some c -> ∃ v,h.IsCell c v
 apart : ∀ x y c,env.cells.lookup x=some c->env.cells.lookup y=some c->x=y
noncomputable def Slots (env:Env) (a:Addr):Prop:=a=env.locals \/ ∃ x,env.cells.lookup x=some a
theorem FrameS.blind {env:Env} {h:Heap} {W:List Addr} (fr:FrameS env h):Blind W h (Slots env):=fun a ha=>by
 rcases ha with rfl|⟨x,hx⟩
 ·refine ea11 fr.ns fun m hm=> ?_;exact .inr (not_seq_ns hm)
 ·obtain ⟨v,hv⟩:=fr.cells x a hx;exact .inr (not_seq_cell hv)
theorem FrameS.shut {env:Env} {h:Heap} {W:List Addr} (fr:FrameS env h) (hW:Shut W h) : ∀ a∈W,¬ Slots env a:=fun a ha hs=>by
 refine ea21 (hW a ha) fun vs n e=> ?_
 rcases fr.blind (W:=[]) a hs with q|q
 ·cases q
 ·exact q _ e ⟨vs,n,.inl rfl⟩
theorem FrameS.keeps {env:Env} {h h':Heap} (fr:FrameS env h) (hk : ∀ b o,Slots env b->h.get? b=some o->h'.get? b=some o):FrameS env h':=
 ⟨let ⟨m,hm⟩:=fr.ns;⟨m,hm.at' fun o e=>hk _ o (.inl rfl) e⟩,fun x c hc=>ea22 (fr.cells x c hc) fun v o ho hd=>⟨v,o,hk c o (.inr ⟨x,hc⟩) ho,hd⟩,fr.apart⟩
theorem FrameS.ext {env:Env} {s s':Shared} (fr:FrameS env s.heap) (x:Ext s s'):FrameS env s'.heap:=fr.keeps fun b o Z e=>x.keep b o e
theorem cell_ne_ns {h:Heap} {a b:Addr} {v:Option Value} {m:Str->Option Value} (hc:h.IsCell a v) (hn:h.Ns b m):a≠b:=by
 rintro rfl
 obtain ⟨o,ho,hd⟩:=hc
 obtain ⟨o',es,ep,ho',hd',_⟩:=hn
 rw [ho] at ho';cases ho';rw [hd] at hd';cases hd'
section
variable {prog:Program} {w:World} {T:Heap->Prop} {F:Str->Option Addr} {Φ B:Fns} {k:Nat} {M:Model} {A:Around} {E:Value->Shared->Prop} {s:Shared} {env:Env} {sc:Sc}
noncomputable def slotOf (env:Env) (sc:Sc) (x:Str):Addr:=match sc.lookup x with
 | some .local=>env.locals
 | _=>(env.cells.lookup x).getD 0
theorem store_ok {x:Str} {v:Value} {Q:Unit->Shared->Prop} (es:EnvS env sc) (fr:FrameS env s.heap) (hx:sc.lookup x=some .local\/sc.lookup x=some .cell)
  (h : ∀ h' tk,FrameS env h'->Holds env h' x v->(∀ y u,y≠x->Holds env s.heap y u->Holds env h' y u)->Chg (·= slotOf env sc x) (fun Z=>False) s { s with heap:=h',toks:=tk }->Slots env (slotOf env sc x)->h'.objs.size=s.heap.objs.size->Q () { s with heap:=h',toks:=tk }) :
  wpAny M A (storeName env x v) Q E s:=by
 obtain ⟨m,hm⟩:=fr.ns
 rcases hx with hx|hx
 ·have hs:slotOf env sc x=env.locals:=by unfold slotOf;exact rwl hx rfl
  refine wpAny_storeName_local (es.loc x hx) hm (fun h' hn' hs'=> ?_) (by refine rwl es.kind ?_;rfl)
  have hc : ∀ y c,env.cells.lookup y=some c->c≠env.locals:=fun y c hy=>ea11 (fr.cells y c hy) fun v hv=>cell_ne_ns hv hm
  refine h h' _ ⟨⟨_,hn'⟩,fun y c hy=>ea11 (fr.cells y c hy) fun v hv=>⟨v,hv.sameBut hs' (hc y c hy)⟩,fr.apart⟩ (.inl ⟨es.loc x hx,_,hn',by simp⟩) ?_ ?_ (.inl hs) hs'.1
  ·rintro y u hy (⟨a,m',hm',hu⟩|⟨a,c,hcc,hv⟩)
   ·refine ea34 hm fun o1 es1 ep1 g1 d1 k1 f1=> ?_
    refine ea34 hm' fun o2 es2 ep2 g2 d2 k2 f2=> ?_
    rw [g1] at g2;obtain rfl:=Option.some.inj g2
    rw [d1] at d2;cases d2
    refine .inl ⟨a,_,hn',?_⟩
    simp only [if_neg hy]
    refine lwr (f1 y) (rwl (f2 y) ?_);exact hu
   ·exact .inr ⟨a,c,hcc,hv.sameBut hs' (hc y c hcc)⟩
  ·refine rwl hs ?_
   exact Chg.one _ hs'
 ·obtain ⟨hk,c,hc⟩:=es.cel x hx
  have hs:slotOf env sc x=c:=by unfold slotOf;refine rwl hx ?_;simp [hc]
  refine ea11 (fr.cells x c hc) fun v₀ hv₀=> ?_
  refine wpAny_storeName_cell es.kind hk hc hv₀ fun h' hv' hs'=> ?_
  have hne:c≠env.locals:=cell_ne_ns hv₀ hm
  refine h h' s.toks ⟨⟨m,hm.sameBut hs' (Ne.symm hne)⟩,fun y c' hy=> ?_,fr.apart⟩ (.inr ⟨.inl hk,c,hc,hv'⟩) ?_ ?_ (.inr ⟨x,hs▸hc⟩) hs'.1
  ·by_cases q:c'=c
   ·subst q;exact ⟨_,hv'⟩
   ·refine ea11 (fr.cells y c' hy) fun v hv=> ?_;exact ⟨v,hv.sameBut hs' q⟩
  ·rintro y u hy (⟨a,m',hm',hu⟩|⟨a,c',hcc,hv⟩)
   ·exact .inl ⟨a,m',hm'.sameBut hs' (Ne.symm hne),hu⟩
   ·exact .inr ⟨a,c',hcc,hv.sameBut hs' fun q=>hy (fr.apart y x c (q▸hcc) hc)⟩
  ·refine rwl hs ?_
   exact Chg.one _ hs'
theorem Bears.store {W:List Addr} {ρ:Loc} {h h':Heap} {x:Str} {v:Value} {d:D} (b:Bears W env h sc ρ) (hh:Holds env h' x v) (hr:Rep W h' v d)
  (hh' : ∀ y u,y≠x->Holds env h y u->Holds env h' y u) (hrep : ∀ v d,Rep W h v d->Rep W h' v d) (hrepl : ∀ v d,RepL W h v d->RepL W h' v d)
  (hown : ∀ a vs n,a∈W->h.get? a=some (lObj vs n)->h'.get? a=some (lObj vs n)):Bears W env h' sc (upd ρ x (.d d)):=by
 refine ⟨fun y e hy he=> ?_,fun y e hy he=> ?_,fun y u hy he=> ?_⟩
 ·rw [lk_upd] at he
  by_cases q:(x==y)=true
  ·rw [if_pos q] at he;cases he
   refine lwr (beq_iff_eq.mp q) ?_;exact ⟨v,hh,hr⟩
  ·rw [if_neg q] at he
   refine ea12 (b.d y e hy he) fun u h1 h2=> ?_
   exact ⟨u,hh' y u (fun z=>q (by refine rwl z ?_;exact beq_self_eq_true _)) h1,hrep _ _ h2⟩
 ·rw [lk_upd] at he
  by_cases q:(x==y)=true
  ·rw [if_pos q] at he;cases he
  ·rw [if_neg q] at he
   refine ea34 (b.o y e hy he) fun a vs n h1 h2 h3 h4=> ?_
   exact ⟨a,vs,n,hh' y _ (fun z=>q (by refine rwl z ?_;exact beq_self_eq_true _)) h1,h2,hown a vs n h2 h3,hrepl _ _ h4⟩
 ·rw [lk_upd] at he
  by_cases q:(x==y)=true
  ·rw [if_pos q] at he;cases he
  ·rw [if_neg q] at he
   exact hh' y u (fun z=>q (by refine rwl z ?_;exact beq_self_eq_true _)) (b.v y u hy he)
theorem Bears.storeO {W:List Addr} {ρ:Loc} {h h':Heap} {x:Str} {a:Addr} {vs:List Value} {n:Nat} {ds:List D} (b:Bears W env h sc ρ) (hh:Holds env h' x (.ref a)) (ha:a∈W) (hg:h'.get? a=some (lObj vs n)) (hr:RepL W h' vs ds)
  (hh' : ∀ y u,y≠x->Holds env h y u->Holds env h' y u) (hrep : ∀ v d,Rep W h v d->Rep W h' v d) (hrepl : ∀ v d,RepL W h v d->RepL W h' v d)
  (hown : ∀ y ds a vs n,y≠x->lk ρ y = .o ds->a∈W->h.get? a=some (lObj vs n)->h'.get? a=some (lObj vs n)):Bears W env h' sc (upd ρ x (.o ds)):=by
 refine ⟨fun y e hy he=> ?_,fun y e hy he=> ?_,fun y u hy he=> ?_⟩
 ·rw [lk_upd] at he
  by_cases q:(x==y)=true
  ·rw [if_pos q] at he;cases he
  ·rw [if_neg q] at he
   refine ea12 (b.d y e hy he) fun u h1 h2=> ?_
   exact ⟨u,hh' y u (fun z=>q (by refine rwl z ?_;exact beq_self_eq_true _)) h1,hrep _ _ h2⟩
 ·rw [lk_upd] at he
  by_cases q:(x==y)=true
  ·rw [if_pos q] at he;cases he
   refine lwr (beq_iff_eq.mp q) ?_;exact ⟨a,vs,n,hh,ha,hg,hr⟩
  ·rw [if_neg q] at he
   have hne:y≠x:=fun z=>q (by refine rwl z ?_;exact beq_self_eq_true _)
   refine ea34 (b.o y e hy he) fun a' vs' n' h1 h2 h3 h4=> ?_
   exact ⟨a',vs',n',hh' y _ hne h1,h2,hown y e a' vs' n' hne he h2 h3,hrepl _ _ h4⟩
 ·rw [lk_upd] at he
  by_cases q:(x==y)=true
  ·rw [if_pos q] at he;cases he
  ·rw [if_neg q] at he
   exact hh' y u (fun z=>q (by refine rwl z ?_;exact beq_self_eq_true _)) (b.v y u hy he)
theorem slot_in (es:EnvS env sc) {x:Str} (hx:sc.lookup x=some .local\/sc.lookup x=some .cell):Slots env (slotOf env sc x):=by
 unfold slotOf
 rcases hx with hx|hx
 ·refine rwl hx ?_;exact .inl rfl
 ·obtain ⟨_,c,hc⟩:=es.cel x hx
  refine rwl hx ?_;exact .inr ⟨x,by simp [hc]⟩
theorem assign_name {W:List Addr} {ρ:Loc} {x:Str} {v:Value} {d:D} {pos:Pos} {Q:Unit->Shared->Prop} (es:EnvS env sc) (fr:FrameS env s.heap) (b:Bears W env s.heap sc ρ) (hx:sc.lookup x=some .local\/sc.lookup x=some .cell)
  (hW : ∀ a∈W,¬ Slots env a) (r:Rep W s.heap v d)
  (h : ∀ s',FrameS env s'.heap->Bears W env s'.heap sc (upd ρ x (.d d))->Chg (·= slotOf env sc x) (fun Z=>False) s s'->Q () s'):wpAny M A (assign (.Name x pos) env v) Q E s:=by
 refine wpAny_assign_Name (store_ok es fr hx fun h' tk fr' hh hh' c hsl Z=> ?_)
 have c':Chg (Slots env) (fun Z=>False) s { s with heap:=h',toks:=tk }:=c.mono (fun a ha=>by subst ha;exact hsl) fun Z h=>h
 have bl:Blind W s.heap (Slots env):=fr.blind
 exact h _ fr' (b.store hh (r.chg c' bl) hh' (fun Z Z q=>q.chg c' bl) (fun Z Z q=>q.chg c' bl) fun a vs n ha e=>c'.keep a _ (hW a ha) e) c
end
structure Ctx (prog:Program) (w:World) (T:Heap->Prop) (V:Value->Prop) (F:Str->Option Addr) (Φ B:Fns) (k:Nat):Prop where
 top:TopS T F
 fn : ∀ f ds d,Φ f ds=some d -> ∃ a,F f=some a /\ ∀ (A:Around) (s:Shared) (W:List Addr) (vs:List Value),Room A k->T s.heap->Shut W s.heap->RepL W s.heap vs ds ->
  codeAny (model prog w) A (.call (.ref a) ⟨vs,[]⟩) (fun r s'=> ∃ v,r = .ok (.ret v)/\Ext s s'/\Rep W s'.heap v d) s
 bl : ∀ f d₁ d,B f [d₁]=some d -> ∃ fv,bltV f=some fv/\(∀ a,fv ≠ .ref a) /\ ∀ (A:Around) (s:Shared) (W:List Addr) (v:Value) (Q:Value->Shared->Prop) (E:Value->Shared->Prop),Room A 0->T s.heap->Shut W s.heap->Seq1 W s.heap v d₁->Gives s W d Q ->
  wpAny (model prog w) A (call fv [v]) Q E s
 jn : ∀ sep d₁ d,B (Str.ofString "join") [.str sep,d₁]=some d -> ∀ (A:Around) (s:Shared) (W:List Addr) (v:Value) (t:Tok) (Q:Value->Shared->Prop) (E:Value->Shared->Prop),Room A 0->T s.heap->Shut W s.heap->strA sep=true->Seq1 W s.heap v d₁->Gives s W d Q ->
  wpAny (model prog w) A (call (.builtin "str.join") [.str sep t,v]) Q E s
 om : ∀ u f ds d,V u->B f (.bool true :: .bool true::ds)=some d -> ∃ fA:Addr,(∀ (A:Around) (s:Shared) (pl:Sem Bool) (Q:Value×List Value->Shared->Prop) (E:Value->Shared->Prop),T s.heap->Q (.ref fA,[u]) s->wpAny (model prog w) A (getMethod u f pl) Q E s) /\
  (∀ h,T h -> ∃ o fd,h.get? fA=some o/\o.data = .func fd) /\ ∀ (A:Around) (s:Shared) (W:List Addr) (vs:List Value),Room A k->T s.heap->Shut W s.heap->RepL W s.heap vs ds ->
  codeAny (model prog w) A (.call (.ref fA) ⟨u::vs,[]⟩) (fun r s'=> ∃ v,r = .ok (.ret v)/\Ext s s'/\Rep W s'.heap v d) s
 dg : ∀ x p q d,B x [.none,p,q]=some d -> ∃ D:Addr,(∀ h,T h->Glob h x (.ref D))/\(∀ (A:Around) (s:Shared) (pl:Sem Bool) (Q:Value×List Value->Shared->Prop) (E:Value->Shared->Prop),T s.heap->Q (.builtin "dict.get", [.ref D]) s->wpAny (model prog w) A (getMethod (.ref D) ("get" : Str) pl) Q E s) /\
  ∀ (A:Around) (s:Shared) (W:List Addr) (v u:Value) (Q:Value->Shared->Prop) (E:Value->Shared->Prop),Room A 0->T s.heap->Shut W s.heap->Rep W s.heap v p->Rep W s.heap u q->Gives s W d Q->wpAny (model prog w) A (call (.builtin "dict.get") [.ref D,v,u]) Q E s
 gc : ∀ x d,B x []=some d -> ∀ h,T h -> ∃ v,Glob h x v /\ ∀ W h,Rep W h v d
structure St (T:Heap->Prop) (V:Value->Prop) (W:List Addr) (env:Env) (sc:Sc) (ρ:Loc) (s:Shared):Prop where
 es:EnvS env sc
 sh:Shut W s.heap
 tp:T s.heap
 br:Bears W env s.heap sc ρ
 fr:FrameS env s.heap
 tv : ∀ x u,lk ρ x = .v u->V u
theorem Room.zero {A:Around} {k:Nat} (r:Room A k):Room A 0:=⟨r.hh,by have:=r.dp;exact Nat.lt_of_add_right_lt this,by have:=r.un;exact H102 this⟩
section
variable {prog:Program} {w:World} {T:Heap->Prop} {V:Value->Prop} {F:Str->Option Addr} {Φ B:Fns} {k:Nat}
theorem St.ext {W:List Addr} {env:Env} {sc:Sc} {ρ:Loc} {s s':Shared} (C:TopS T F) (x:St T V W env sc ρ s) (y:Ext s s'):St T V W env sc ρ s':=
 ⟨x.es,x.sh.keeps y.keep,C.mono _ _ x.tp y.keep,x.br.keeps y.keep,x.fr.ext y,x.tv⟩
variable (prog w T V Φ B k)
noncomputable def SE (m:ME):Prop:= ∀ (sc:Sc) (e:Expr) (A:Around) (env:Env) (W:List Addr) (ρ:Loc) (s:Shared) (d:D) (Q:Value->Shared->Prop) (E:Value->Shared->Prop),
 mt m sc e=true->Room A k->St T V W env sc ρ s->ev Φ B m ρ=some d->Gives s W d Q->wpAny (model prog w) A (eval e env) Q E s
noncomputable def ST (m:ME):Prop:= ∀ (sc:Sc) (e:Expr) (A:Around) (env:Env) (W:List Addr) (ρ:Loc) (s:Shared) (d:D) (b:Bool) (Q:Bool->Shared->Prop) (E:Value->Shared->Prop),
 mt m sc e=true->Room A k->St T V W env sc ρ s->ev Φ B m ρ=some d->truD d=some b->(∀ s',Ext s s'->Q b s')->wpAny (model prog w) A (isTrue e env (eval e env)) Q E s
noncomputable def SL (ms:MEs):Prop:= ∀ (sc:Sc) (es:List Expr) (A:Around) (env:Env) (W:List Addr) (ρ:Loc) (s:Shared) (ds:List D) (pos:Pos) (Q:List Value->Shared->Prop) (E:Value->Shared->Prop),
 mtL ms sc es=true->Room A k->St T V W env sc ρ s->evL Φ B ms ρ=some ds->(∀ vs s',Ext s s'->RepL W s'.heap vs ds->Q vs s')->wpAny (model prog w) A (spliced (backTo pos (starEach es env))) Q E s
noncomputable def SBo (ms:MEs):Prop:= ∀ (sc:Sc) (es:List Expr) (A:Around) (env:Env) (W:List Addr) (ρ:Loc) (s:Shared) (op:BoolOp) (b:Bool) (E:Value->Shared->Prop),
 mtL ms sc es=true->Room A k->St T V W env sc ρ s->evB Φ B op ms ρ=some b ->
 (∀ (Q:Bool->Shared->Prop),(∀ s',Ext s s'->Q b s')->wpAny (model prog w) A (allTrue op es env) Q E s) /\
 (es.isEmpty=false -> ∀ pos (Q:Value->Shared->Prop),(∀ s',Ext s s'->Q (.bool b) s')->wpAny (model prog w) A (boolOp pos op (evalEach es env)) Q E s)
noncomputable def SA (ms:MEs):Prop:= ∀ (sc:Sc) (es:List Expr) (A:Around) (env:Env) (W:List Addr) (ρ:Loc) (s:Shared) (b:Bool) (Q:Bool->Shared->Prop) (E:Value->Shared->Prop),
 mtL ms sc es=true->Room A k->St T V W env sc ρ s->evA Φ B ms ρ=some b->(∀ s',Ext s s'->Q b s') ->
 wpAny (model prog w) A (forIn es true fun c r=>if r=true then do let ok <- isTrue c env (eval c env);pure (ForInStep.yield ok) else pure (ForInStep.yield r)) Q E s
variable {prog w T V Φ B k}
theorem Gives.ext {s s':Shared} {W:List Addr} {d:D} {Q:Value->Shared->Prop} (h:Gives s W d Q) (x:Ext s s'):Gives s' W d Q:=fun r s'' y q=>h r s'' (x.trans y) q
theorem constIs_el {d:D} {c:Const} {n:Nat} {p:Pos} {M:Model} {A:Around} {env:Env} {Q:Value->Shared->Prop} {E:Value->Shared->Prop} {s:Shared} {W:List Addr} (hm:constIs d c=true) (h:Gives s W d Q):wpAny M A (eval (.Constant c n p) env) Q E s:=by
 rcases c with _|b|i|_|_|x|_|_
 case none=>
  rcases d with _|_|_|_|_|_|_
  case none=>exact wpAny_Constant_none (h _ _ (Ext.refl s) .none)
  all_goals exact ff hm
 case bool=>
  rcases d with _|_|_|_|_|_|_
  case bool=>obtain rfl:=eqB hm;exact wpAny_Constant_bool (h _ _ (Ext.refl s) (.bool _))
  all_goals exact ff hm
 case int=>
  rcases d with _|_|_|_|_|_|_
  case int=>obtain rfl:=eqB hm;exact wpAny_Constant_int (h _ _ (Ext.toks s _) (.int _ _))
  all_goals exact ff hm
 case str=>
  rcases d with _|_|_|_|_|_|_
  case str=>cases eqB (andB hm).1;exact wpAny_Constant_str (h _ _ (Ext.toks s _) (.str _ _ (andB hm).2))
  all_goals exact ff hm
 all_goals exact ff hm
theorem se_c (d:D):SE prog w T V Φ B k (.c d):=by
 intro sc e A env W ρ s d' Q E hm rm st he h
 obtain rfl:=Option.some.inj he
 rcases Bool.or_eq_true_iff.mp hm with hm|hm
 ·apply onConstant_el hm;clear hm;intro c Z Z hm;exact constIs_el hm h
 ·apply onUnaryOp_el hm;clear hm;intro o x Z hm
  refine and2 hm fun ho hm=> ?_
  obtain rfl:=eqB ho
  apply onConstant_el hm;clear hm;intro c Z Z hm
  apply onInt_el hm;clear hm;intro i hm
  revert h;apply onI_el hm;clear hm;intro j hm h
  obtain rfl:=eqB hm
  exact wpAny_UnaryOp (wpAny_Constant_int (neg_int (h _ _ ⟨fun Z Z e=>e,rfl,fun Z Z e=>e,fun x=>x⟩ (.int _ _))))
theorem lk_d {ρ:Loc} {x:Str} {d:D} (h:(match lk ρ x with | .d d=>some d|_=>none)=some d):lk ρ x = .d d:=by
 revert h;(rcases lk ρ x with _|d|_|_;(case d=>exact fun h=>Option.some.inj h▸rfl);all_goals (exact fun h=>nomatch h))
theorem lk_o {ρ:Loc} {x:Str} {d:D} (h:(match lk ρ x with | .o ds=>some (PyData.list ds)|_=>none)=some d) : ∃ ds,lk ρ x = .o ds/\d = .list ds:=by
 revert h;(rcases lk ρ x with _|_|d|_;(case o=>exact fun h=>⟨_,rfl,(Option.some.inj h).symm⟩);all_goals (exact fun h=>nomatch h))
theorem evv {x:Str} {ρ:Loc} {d:D} (h:lk ρ x = .d d):ev Φ B (.var x) ρ=some d:=by
 show (match lk ρ x with | .d d=>some d|_=>none)=_
 exact rwl h rfl
theorem se_var (x:Str):SE prog w T V Φ B k (.var x):=by
 intro sc e A env W ρ s d' Q E hm rm st he h
 apply onName_el hm;clear hm;intro y Z hm
 refine and2 hm fun hy hx=> ?_
 clear hm;obtain rfl:=eqB hy
 refine ea12 (st.br.d _ _ hx (lk_d he)) fun v hv rv=> ?_
 exact name_holds st.es hx hv (h _ _ (Ext.refl s) rv)
theorem se_own (x:Str):SE prog w T V Φ B k (.own x):=fun Z Z Z Z Z Z Z Z Z Z Z Z Z he=>nomatch he
theorem se_own1 (C:Ctx prog w T V F Φ B k) {a:ME} (ha:SE prog w T V Φ B k a) {sc:Sc} {e:Expr} {A:Around} {env:Env} {W:List Addr} {ρ:Loc} {s:Shared} {d:D} {Q:Value->Shared->Prop} {E:Value->Shared->Prop}
  (hm:mt a sc e=true) (rm:Room A k) (st:St T V W env sc ρ s) (he:own1 a ρ (ev Φ B a ρ)=some d) (h : ∀ v s',Ext s s'->Seq1 W s'.heap v d->Q v s'):wpAny (model prog w) A (eval e env) Q E s:=by
 have go:mt a sc e=true->own1 a ρ (ev Φ B a ρ)=ev Φ B a ρ->wpAny (model prog w) A (eval e env) Q E s:=fun hm q=>ha sc e A env W ρ s d Q E hm rm st (q▸he) fun v s' x r=>h v s' x (.inl r)
 rcases a with _|_|x|_|_|_|_|_|_|_|_|_|_|_|_|_|_|_|_|_|_
 case own=>
  apply onName_el hm;clear hm;intro y Z hm
  refine and2 hm fun hy hx=> ?_
  clear hm;obtain rfl:=eqB hy
  obtain ⟨ds,hl,rfl⟩:=lk_o he
  refine ea34 (st.br.o _ _ hx hl) fun a vs n hv hW ea ra=> ?_
  exact name_holds st.es hx hv (h _ _ (Ext.refl s) (.inr ⟨a,vs,n,ds,rfl,rfl,hW,ea,ra⟩))
 all_goals exact go hm rfl
theorem se_bin (C:Ctx prog w T V F Φ B k) {op:Operator} {a b:ME} (ha:SE prog w T V Φ B k a) (hb:SE prog w T V Φ B k b):SE prog w T V Φ B k (.bin op a b):=by
 intro sc e A env W ρ s d' Q E hm rm st he h
 apply onBinOp_el hm;clear hm;intro l o r Z hm
 refine and3 hm fun ho hma hmb=> ?_
 clear hm;obtain rfl:=(eqB ho).symm
 refine bindE he fun x hx he=> ?_
 refine bindE he fun y hy he=> ?_
 refine wpAny_BinOp (ha sc _ A env W ρ s x _ E hma rm st hx fun v s₁ x₁ r₁=> ?_)
 refine hb sc _ A env W ρ s₁ y _ E hmb rm (st.ext C.top x₁) hy fun u s₂ x₂ r₂=> ?_
 exact op_bin rm.hh (st.sh.keeps (x₁.trans x₂).keep) (r₁.ext x₂) r₂ he (h.ext (x₁.trans x₂))
theorem se_cmp (C:Ctx prog w T V F Φ B k) {op:CmpOp} {a b:ME} (ha:SE prog w T V Φ B k a) (hb:SE prog w T V Φ B k b):SE prog w T V Φ B k (.cmp op a b):=by
 intro sc e A env W ρ s d' Q E hm rm st he h
 apply onCompare_el hm;clear hm;intro l os rs Z hm
 apply on1_el hm;clear hm;intro o hm
 apply on1_el hm;clear hm;intro r hm
 refine and4 hm fun ho hma hmb hmark=> ?_
 clear hm;obtain rfl:=(eqB ho).symm;have hmark:=notB hmark
 refine bindE he fun x hx he=> ?_
 refine bindE he fun y hy he=> ?_
 obtain ⟨c,hc,rfl⟩:=Option.map_eq_some_iff.mp he
 refine wpAny_Compare1 (ha sc _ A env W ρ s x _ E hma rm st hx fun v s₁ x₁ r₁=> ?_) hmark
 refine hb sc _ A env W ρ s₁ y _ E hmb rm (st.ext C.top x₁) hy fun u s₂ x₂ r₂=> ?_
 exact op_cmp rm.zero (r₁.ext x₂) r₂ hc (h _ _ (x₁.trans x₂) (.bool _))
theorem st_cmp (C:Ctx prog w T V F Φ B k) {op:CmpOp} {a b:ME} (ha:SE prog w T V Φ B k a) (hb:SE prog w T V Φ B k b):ST prog w T V Φ B k (.cmp op a b):=by
 intro sc e A env W ρ s d' t Q E hm rm st he ht h
 apply onCompare_el hm;clear hm;intro l os rs Z hm
 apply on1_el hm;clear hm;intro o hm
 apply on1_el hm;clear hm;intro r hm
 refine and4 hm fun ho hma hmb hmark=> ?_
 clear hm;obtain rfl:=(eqB ho).symm;have hmark:=notB hmark
 refine bindE he fun x hx he=> ?_
 refine bindE he fun y hy he=> ?_
 refine ea12 (Option.map_eq_some_iff.mp he) fun c hc Z2=> ?_;subst Z2
 obtain rfl:=Option.some.inj ht
 refine wpAny_isTrue_Compare1 (ha sc _ A env W ρ s x _ E hma rm st hx fun v s₁ x₁ r₁=> ?_) hmark
 refine hb sc _ A env W ρ s₁ y _ E hmb rm (st.ext C.top x₁) hy fun u s₂ x₂ r₂=> ?_
 exact op_cmp rm.zero (r₁.ext x₂) r₂ hc (wpAny_truthy_bool (h _ (x₁.trans x₂)))
theorem Compare2 {M:Model} {A:Around} {E:Value->Shared->Prop} {s:Shared} {env:Env} {l r t:Expr} {p q:CmpOp} {pos:Pos} {Q:Value->Shared->Prop} (hp:behindInMarks p r=false) (hq:behindInMarks q t=false)
  (h:wpAny M A (eval l env) (fun a s₁=>wpAny M A (eval r env) (fun b s₂=>wpAny M A (compareOp p a b) (fun c s₃=>wpAny M A (truthy c) (fun z s₄=>
   if z=true then wpAny M A (eval t env) (fun d s₅=>wpAny M A (compareOp q b d) Q E s₅) E s₄ else Q c s₄) E s₃) E s₂) E s₁) E s):wpAny M A (eval (.Compare l [p,q] [r,t] pos) env) Q E s:=by
 show wpAny M A (eval l env >>= fun a=>compareChain pos a [p,q] (markedEach [p,q] [r,t] (evalEach [r,t] env))) Q E s
 refine wpAny_bind (wpAny_mono h (fun a s₁ h₁=> ?_) fun Z Z e=>e)
 show wpAny M A (compareChain pos a [p,q] [eval r env,markedBehindIn q t (eval t env)]) Q E s₁
 refine rwl (markedBehindIn_of_false hq) ?_
 refine wpAny_bind (wpAny_holding (wpAny_mono h₁ (fun b s₂ h₂=>wpAny_bind (wpAny_standAt (wpAny_bind (wpAny_holding (wpAny_mono h₂ (fun c s₃ h₃=> ?_) fun Z Z e=>e)))) ) fun Z Z e=>e))
 refine wpAny_bind (wpAny_release (wpAny_bind (wpAny_holding (wpAny_mono h₃ (fun z s₄ h₄=> ?_) fun Z Z e=>e))))
 rcases z with _|_
 ·exact wpAny_pure h₄
 ·rw [if_pos rfl] at h₄
  exact wpAny_bind (wpAny_holding (wpAny_mono h₄ (fun d s₅ h₅=>wpAny_bind (wpAny_standAt (wpAny_operating h₅))) fun Z Z e=>e))
theorem testChain2 {M:Model} {A:Around} {E:Value->Shared->Prop} {s:Shared} {env:Env} {l r t:Expr} {p q:CmpOp} {pos:Pos} {whole:Sem Value} {Q:Bool->Shared->Prop} (hp:behindInMarks p r=false) (hq:behindInMarks q t=false)
  (h:wpAny M A (eval l env) (fun a s₁=>wpAny M A (eval r env) (fun b s₂=>wpAny M A (compareOp p a b) (fun c s₃=>wpAny M A (truthy c) (fun z s₄=>
   if z=true then wpAny M A (eval t env) (fun d s₅=>wpAny M A (compareOp q b d) (fun f s₆=>wpAny M A (truthy f) Q E s₆) E s₅) E s₄ else Q false s₄) E s₃) E s₂) E s₁) E s):wpAny M A (isTrue (.Compare l [p,q] [r,t] pos) env whole) Q E s:=by
 show wpAny M A (eval l env >>= fun a=>testChain pos a [p,q] (markedEach [p,q] [r,t] (evalEach [r,t] env))) Q E s
 refine wpAny_bind (wpAny_mono h (fun a s₁ h₁=> ?_) fun Z Z e=>e)
 show wpAny M A (testChain pos a [p,q] [eval r env,markedBehindIn q t (eval t env)]) Q E s₁
 refine rwl (markedBehindIn_of_false hq) ?_
 refine wpAny_bind (wpAny_holding (wpAny_mono h₁ (fun b s₂ h₂=>wpAny_bind (wpAny_standAt (wpAny_bind (wpAny_holding (wpAny_mono h₂ (fun c s₃ h₃=> ?_) fun Z Z e=>e)))) ) fun Z Z e=>e))
 refine wpAny_bind (wpAny_release (wpAny_bind (wpAny_holding (wpAny_mono h₃ (fun z s₄ h₄=> ?_) fun Z Z e=>e))))
 rcases z with _|_
 ·exact wpAny_pure h₄
 ·rw [if_pos rfl] at h₄
  exact wpAny_bind (wpAny_holding (wpAny_mono h₄ (fun d s₅ h₅=>wpAny_bind (wpAny_standAt (wpAny_bind (wpAny_operating (wpAny_mono h₅ (fun f s₆ h₆=>wpAny_holding h₆) fun Z Z e=>e))))) fun Z Z e=>e))
theorem se_chn (C:Ctx prog w T V F Φ B k) {o1 o2:CmpOp} {a b c:ME} (ha:SE prog w T V Φ B k a) (hb:SE prog w T V Φ B k b) (hc:SE prog w T V Φ B k c):SE prog w T V Φ B k (.chn o1 o2 a b c):=by
 intro sc e A env W ρ s d' Q E hm rm st he h
 apply onCompare_el hm;clear hm;intro l os rs Z hm
 apply on2_el hm;clear hm;intro o p hm
 apply on2_el hm;clear hm;intro r t hm
 refine and7 hm fun h1 h2 hma hmb hmc m1 m2=> ?_
 clear hm;obtain rfl:=(eqB h1).symm;obtain rfl:=(eqB h2).symm;have m1:=notB m1;have m2:=notB m2
 refine bindE he fun x hx he=> ?_
 refine bindE he fun y hy he=> ?_
 refine bindE he fun t ht he=> ?_
 refine Compare2 m1 m2 (ha sc _ A env W ρ s x _ E hma rm st hx fun v s₁ x₁ r₁=> ?_)
 refine hb sc _ A env W ρ s₁ y _ E hmb rm (st.ext C.top x₁) hy fun u s₂ x₂ r₂=> ?_
 refine op_cmp rm.zero (r₁.ext x₂) r₂ ht (wpAny_truthy_bool ?_)
 rcases t with _|_
 ·obtain rfl:=Option.some.inj he
  exact h _ _ (x₁.trans x₂) (.bool _)
 ·refine bindE he fun z hz he=> ?_
  refine ea12 (Option.map_eq_some_iff.mp he) fun f hf Z2=> ?_;subst Z2
  refine hc sc _ A env W ρ s₂ z _ E hmc rm (st.ext C.top (x₁.trans x₂)) hz fun u s₃ x₃ r₃=> ?_
  exact op_cmp rm.zero (r₂.ext x₃) r₃ hf (h _ _ ((x₁.trans x₂).trans x₃) (.bool _))
theorem st_chn (C:Ctx prog w T V F Φ B k) {o1 o2:CmpOp} {a b c:ME} (ha:SE prog w T V Φ B k a) (hb:SE prog w T V Φ B k b) (hc:SE prog w T V Φ B k c):ST prog w T V Φ B k (.chn o1 o2 a b c):=by
 intro sc e A env W ρ s d' tt Q E hm rm st he htt h
 apply onCompare_el hm;clear hm;intro l os rs Z hm
 apply on2_el hm;clear hm;intro o p hm
 apply on2_el hm;clear hm;intro r t hm
 refine and7 hm fun h1 h2 hma hmb hmc m1 m2=> ?_
 clear hm;obtain rfl:=(eqB h1).symm;obtain rfl:=(eqB h2).symm;have m1:=notB m1;have m2:=notB m2
 refine bindE he fun x hx he=> ?_
 refine bindE he fun y hy he=> ?_
 refine bindE he fun t ht he=> ?_
 refine testChain2 m1 m2 (ha sc _ A env W ρ s x _ E hma rm st hx fun v s₁ x₁ r₁=> ?_)
 refine hb sc _ A env W ρ s₁ y _ E hmb rm (st.ext C.top x₁) hy fun u s₂ x₂ r₂=> ?_
 refine op_cmp rm.zero (r₁.ext x₂) r₂ ht (wpAny_truthy_bool ?_)
 rcases t with _|_
 ·obtain rfl:=Option.some.inj he
  obtain rfl:=Option.some.inj htt
  exact h _ (x₁.trans x₂)
 ·refine bindE he fun z hz he=> ?_
  refine ea12 (Option.map_eq_some_iff.mp he) fun f hf Z2=> ?_;subst Z2
  obtain rfl:=Option.some.inj htt
  refine hc sc _ A env W ρ s₂ z _ E hmc rm (st.ext C.top (x₁.trans x₂)) hz fun u s₃ x₃ r₃=> ?_
  exact op_cmp rm.zero (r₂.ext x₃) r₃ hf (wpAny_truthy_bool (h _ ((x₁.trans x₂).trans x₃)))
end
section
variable {prog:Program} {w:World} {T:Heap->Prop} {V:Value->Prop} {F:Str->Option Addr} {Φ B:Fns} {k:Nat}
theorem mtL_el {m:ME} {r:MEs} {sc:Sc} {es:List Expr} {P:List Expr->Prop} (h:mtL (.cons m r) sc es=true) (k : ∀ e es,notStar e=true->mt m sc e=true->mtL r sc es=true->P (e::es)):P es:=match es,h with
 | e::es,h=>and3 h (k e es)
theorem sbo_nil:SBo prog w T V Φ B k .nil:=by
 intro sc es A env W ρ s op b E hm rm st he
 obtain rfl:=nilB hm;obtain rfl:=Option.some.inj he
 exact ⟨fun Q h=>wpAny_pure (h _ (Ext.refl s)),fun h=>nomatch h⟩
theorem evB_c {op:BoolOp} {m:ME} {r:MEs} {ρ:Loc} {b:Bool} (h:evB Φ B op (.cons m r) ρ=some b) : ∃ c,ev Φ B m ρ=some (.bool c)/\(if c==(op == .Or) then some c else evB Φ B op r ρ)=some b:=by
 replace h:(match ev Φ B m ρ with|some (.bool b)=>if b==(op == .Or) then some b else evB Φ B op r ρ|_=>none)=some b:=h
 revert h;cases ev Φ B m ρ with
 | none=>exact fun h=>nomatch h
 | some d=>rcases d with _|c|_|_|_|_|_
           case bool=>exact fun h=>⟨c,rfl,h⟩
           all_goals exact fun h=>nomatch h
theorem sbo_cons (C:Ctx prog w T V F Φ B k) {m:ME} {r:MEs} (hs:SE prog w T V Φ B k m) (ht:ST prog w T V Φ B k m) (hr:SBo prog w T V Φ B k r):SBo prog w T V Φ B k (.cons m r):=by
 intro sc es A env W ρ s op b E hm rm st he
 apply mtL_el hm;clear hm;intro e es Z hme hmr
 obtain ⟨c,hc,he⟩:=evB_c he
 have stop : ∀ {s':Shared},Ext s s'->(c==(op == .Or))=true->b=c:=fun Z hq=>by
  rw [if_pos hq] at he;exact (Option.some.inj he).symm
 have on : ¬ (c==(op == .Or))=true->evB Φ B op r ρ=some b:=fun hq=>by rw [if_neg hq] at he;exact he
 refine ⟨fun Q h=> ?_,fun Z pos Q h=> ?_⟩
 ·refine wpAny_bind ?_
  refine ht sc e A env W ρ s (.bool c) c _ E hme rm st hc rfl fun s₁ x₁=> ?_
  have rest : ¬ (c==(op == .Or))=true->wpAny (model prog w) A (allTrue op es env) Q E s₁:=fun hq=>(hr sc es A env W ρ s₁ op b E hmr rm (st.ext C.top x₁) (on hq)).1 Q fun s' y=>h s' (x₁.trans y)
  rcases op with _|_<;>rcases c with _|_
  ·exact wpAny_pure (by have:=stop x₁ rfl;subst this;exact h _ x₁)
  ·exact rest (by decide)
  ·exact rest (by decide)
  ·exact wpAny_pure (by have:=stop x₁ rfl;subst this;exact h _ x₁)
 ·rcases es with _|⟨e2,es⟩
  ·show wpAny (model prog w) A (eval e env) Q E s
   refine hs sc e A env W ρ s (.bool c) Q E hme rm st hc fun v s₁ x₁ r₁=> ?_
   cases r₁
   have:b=c:=by
    by_cases hq:(c==(op == .Or))=true
    ·exact stop x₁ hq
    ·have q:=on hq
     rcases r with _|⟨_,_⟩
     ·rcases op with _|_<;>rcases c with _|_<;>first|exact (Option.some.inj q).symm|exact absurd rfl hq
     ·cases hmr
   subst this
   exact h _ x₁
  ·show wpAny (model prog w) A (boolOp pos op (eval e env::eval e2 env::evalEach es env)) Q E s
   refine wpAny_bind (hs sc e A env W ρ s (.bool c) _ E hme rm st hc fun v s₁ x₁ r₁=> ?_)
   cases r₁
   refine wpAny_bind (wpAny_standAt (wpAny_bind (wpAny_holding (wpAny_truthy_bool ?_))))
   have rest : ¬ (c==(op == .Or))=true->wpAny (model prog w) A (boolOp pos op (eval e2 env::evalEach es env)) Q E s₁:=fun hq=>(hr sc (e2::es) A env W ρ s₁ op b E hmr rm (st.ext C.top x₁) (on hq)).2 rfl pos Q fun s' y=>h s' (x₁.trans y)
   rcases op with _|_<;>rcases c with _|_
   ·exact wpAny_pure (by have:=stop x₁ rfl;subst this;exact h _ x₁)
   ·exact rest (by decide)
   ·exact rest (by decide)
   ·exact wpAny_pure (by have:=stop x₁ rfl;subst this;exact h _ x₁)
theorem se_bop {op:BoolOp} {es:MEs} (hb:SBo prog w T V Φ B k es):SE prog w T V Φ B k (.bop op es):=by
 intro sc e A env W ρ s d' Q E hm rm st he h
 apply onBoolOp_el hm;clear hm;intro o vs Z hm
 refine and3 hm fun ho hne hml=> ?_
 clear hm;obtain rfl:=(eqB ho).symm;have hne:=notB hne
 obtain ⟨b,hbb,rfl⟩:=Option.map_eq_some_iff.mp he
 exact (hb sc _ A env W ρ s _ b E hml rm st hbb).2 hne _ Q fun s' x=>h _ _ x (.bool _)
theorem st_bop {op:BoolOp} {es:MEs} (hb:SBo prog w T V Φ B k es):ST prog w T V Φ B k (.bop op es):=by
 intro sc e A env W ρ s d' t Q E hm rm st he ht h
 apply onBoolOp_el hm;clear hm;intro o vs Z hm
 refine and3 hm fun ho hne hml=> ?_
 clear hm;obtain rfl:=(eqB ho).symm;have hne:=notB hne
 refine ea12 (Option.map_eq_some_iff.mp he) fun b hbb Z2=> ?_;subst Z2
 obtain rfl:=Option.some.inj ht
 exact wpAny_isTrue_BoolOp ((hb sc _ A env W ρ s _ _ E hml rm st hbb).1 Q h)
theorem se_ite (C:Ctx prog w T V F Φ B k) {c a b:ME} (hc:ST prog w T V Φ B k c) (ha:SE prog w T V Φ B k a) (hb:SE prog w T V Φ B k b):SE prog w T V Φ B k (.ite c a b):=by
 intro sc e A env W ρ s d' Q E hm rm st he h
 apply onIfExp_el hm;clear hm;intro c a b Z hm
 refine and3 hm fun hmc hma hmb=> ?_
 refine bindE he fun t ht he=> ?_
 refine bindE ht fun x hx ht=> ?_
 refine wpAny_IfExp (hc sc _ A env W ρ s x t _ E hmc rm st hx ht fun s₁ x₁=> ?_)
 rcases t with _|_
 ·exact hb sc _ A env W ρ s₁ _ Q E hmb rm (st.ext C.top x₁) he (h.ext x₁)
 ·exact ha sc _ A env W ρ s₁ _ Q E hma rm (st.ext C.top x₁) he (h.ext x₁)
theorem st_ite (C:Ctx prog w T V F Φ B k) {c a b:ME} (hc:ST prog w T V Φ B k c) (ha:ST prog w T V Φ B k a) (hb:ST prog w T V Φ B k b):ST prog w T V Φ B k (.ite c a b):=by
 intro sc e A env W ρ s d' tt Q E hm rm st he htt h
 apply onIfExp_el hm;clear hm;intro c a b Z hm
 refine and3 hm fun hmc hma hmb=> ?_
 refine bindE he fun t ht he=> ?_
 refine bindE ht fun x hx ht=> ?_
 refine wpAny_bind (hc sc _ A env W ρ s x t _ E hmc rm st hx ht fun s₁ x₁=> ?_)
 rcases t with _|_
 ·exact hb sc _ A env W ρ s₁ _ _ Q E hmb rm (st.ext C.top x₁) he htt fun s' y=>h s' (x₁.trans y)
 ·exact ha sc _ A env W ρ s₁ _ _ Q E hma rm (st.ext C.top x₁) he htt fun s' y=>h s' (x₁.trans y)
theorem st_value {m:ME} (hs:SE prog w T V Φ B k m) (hp : ∀ sc e,mt m sc e=true -> ∀ env whole,isTrue e env whole=(do let v <- whole;standAt e.pos;holding [v] (truthy v))):ST prog w T V Φ B k m:=by
 intro sc e A env W ρ s d' tt Q E hm rm st he htt h
 refine wpAny_isTrue_value ?_ (hp sc e hm env _)
 exact hs sc e A env W ρ s d' _ E hm rm st he fun v s₁ x₁ r₁=>op_tru r₁ htt (h _ x₁)
theorem sl_nil:SL prog w T V Φ B k .nil:=by
 intro sc es A env W ρ s ds pos Q E hm rm st he h
 obtain rfl:=nilB hm;obtain rfl:=Option.some.inj he
 exact PySem.Calls.spliced_nil (h _ _ (Ext.refl s) .nil)
theorem starEach_cons {e:Expr} {es:List Expr} {env:Env} (h:notStar e=true):starEach (e::es) env=(false,eval e env)::starEach es env:=by
 rcases e with _|_|_|_|_|_|_|_|_|_|_|_|_|_|_|_|_|_|_|_|_|_|_|_|_|_|_<;>first|rfl|exact ff h
theorem sl_cons (C:Ctx prog w T V F Φ B k) {m:ME} {r:MEs} (hs:SE prog w T V Φ B k m) (hr:SL prog w T V Φ B k r):SL prog w T V Φ B k (.cons m r):=by
 intro sc es A env W ρ s ds pos Q E hm rm st he h
 apply mtL_el hm;clear hm;intro e es hst hme hmr
 refine bindE he fun d hd he=> ?_
 refine ea12 (Option.map_eq_some_iff.mp he) fun ds' hds Z2=> ?_;subst Z2
 refine rwl (starEach_cons hst) ?_
 refine PySem.Calls.spliced_cons (hs sc e A env W ρ s d _ E hme rm st hd fun v s₁ x₁ r₁=> ?_)
 refine hr sc es A env W ρ s₁ ds' pos _ E hmr rm (st.ext C.top x₁) hds fun vs s₂ x₂ r₂=> ?_
 exact h _ _ (x₁.trans x₂) (.cons (r₁.ext x₂) r₂)
theorem mtL_len : ∀ {ms:MEs} {sc:Sc} {es:List Expr} {ρ:Loc} {ds:List D},mtL ms sc es=true->evL Φ B ms ρ=some ds->ds.length=es.length
 | .nil,_,es,_,ds,hm,he=>by obtain rfl:=nilB hm;obtain rfl:=Option.some.inj he;rfl
 | .cons m r,sc,es,ρ,ds,hm,he=>by
  apply mtL_el hm;clear hm;intro e es Z Z hm
  refine bindE he fun d hd he=> ?_
  obtain ⟨ds',hds,rfl⟩:=Option.map_eq_some_iff.mp he
  exact congrArg (·+ 1) (mtL_len hm hds)
theorem se_list (C:Ctx prog w T V F Φ B k) {es:MEs} (hl:SL prog w T V Φ B k es):SE prog w T V Φ B k (.list es):=by
 intro sc e A env W ρ s d' Q E hm rm st he h
 apply onList_el hm;clear hm;intro xs Z hm
 refine and2 hm fun hm hz=> ?_
 have hz:=of_decide_eq_true hz
 obtain ⟨ds,hds,rfl⟩:=Option.map_eq_some_iff.mp he
 have len:=mtL_len hm hds
 refine wpAny_List (hl sc _ A env W ρ s ds _ _ E hm rm st hds fun vs s₁ x₁ r₁=>⟨?_,?_⟩)
 ·refine rwl r₁.length (rwl sizeLine_eq ?_);exact Nat.le_trans (Nat.le_of_eq len) (t2 hz rfl)
 ·exact h _ _ (x₁.trans (Ext.push' s₁ _)) (Rep.newL r₁ (st.sh.keeps x₁.keep).live)
theorem se_tup (C:Ctx prog w T V F Φ B k) {es:MEs} (hl:SL prog w T V Φ B k es):SE prog w T V Φ B k (.tup es):=by
 intro sc e A env W ρ s d' Q E hm rm st he h
 apply onTuple_el hm;clear hm;intro xs Z Z hm
 refine and2 hm fun hm hz=> ?_
 have hz:=of_decide_eq_true hz
 refine ea12 (Option.map_eq_some_iff.mp he) fun ds hds Z2=> ?_;subst Z2
 have len:=mtL_len hm hds
 refine wpAny_Tuple (hl sc _ A env W ρ s ds _ _ E hm rm st hds fun vs s₁ x₁ r₁=>⟨?_,?_⟩)
 ·refine rwl r₁.length (rwl sizeLine_eq ?_);exact Nat.le_trans (Nat.le_of_eq len) (t2 hz rfl)
 ·exact h _ _ (x₁.trans (Ext.push' s₁ _)) (Rep.newT r₁ (st.sh.keeps x₁.keep).live)
theorem keeper_mach {M:Model} {h:Heap} {f:Value} (hf : ∀ a,f ≠ .ref a):Looks M h (keeperOf f) .machine:=by
 rcases f with _|_|_|_|_|_|_|_|_|_|a
 case ref=>exact absurd rfl (hf a)
 all_goals exact .now
theorem keeper_fn {M:Model} {h:Heap} {a:Addr} {o:Obj} {fd:FuncData} (ho:h.get? a=some o) (hd:o.data = .func fd):Looks M h (keeperOf (.ref a)) .frame:=by
 refine (Looks.ld (part:=none) ho).andThen ?_
 refine rwl hd ?_
 exact .now
theorem plain_any {sc:Sc} {env:Env} {pos:Pos} : ∀ {ms:MEs} {es:List Expr},mtL ms sc es=true->((backTo pos (starEach es env)).any (·.1))=false
 | .nil,es,hm=>by obtain rfl:=nilB hm;rfl
 | .cons m r,es,hm=>by
  apply mtL_el hm;clear hm;intro e es hs Z hm
  refine rwl (starEach_cons hs) ?_
  exact plain_any (ms:=r) (es:=es) hm
theorem se_call (C:Ctx prog w T V F Φ B k) {f:Str} {as:MEs} (hl:SL prog w T V Φ B k as):SE prog w T V Φ B k (.call f as):=by
 intro sc e A env W ρ s d' Q E hm rm st he h
 apply onCall_el hm;clear hm;intro c xs ks pos hm
 apply onName_el hm;clear hm;intro g Z hm
 refine and6 hm fun hk hf hd hg hml hlen=> ?_
 clear hm;obtain rfl:=nilB hk;obtain rfl:=eqB hf;have hd:=notB hd;have hg:=eqB hg
 rcases xs with _|⟨x,xs⟩
 ·exact absurd (of_decide_eq_true hlen).1 (Nat.lt_irrefl 0)
 ·refine bindE he fun ds hds he=> ?_
  refine ea12 (C.fn _ _ _ he) fun a hF hc=> ?_
  obtain ⟨gl,o,fd,ho,hdt⟩:=C.top.fn _ st.tp _ _ hF
  refine wpAny_Call_Name_kw (name_glob st.es hg hd gl ?_)
  refine callWith_of (P:=fun h=>h.get? a=some o) (by refine rwl (plain_any hml) ?_;rfl) (fun h' ho'=>⟨.frame,.inl rfl,keeper_fn ho' hdt⟩) ?_
  have hst:notStar x=true:=by
   rcases as with _|⟨_,_⟩
   ·exact ff hml
   ·exact and3 hml fun h Z Z=>h
  have:=hl sc (x::xs) A env W ρ s ds pos (fun vs s₁=>s₁.heap.get? a=some o/\wpAny (model prog w) A (call (.ref a) ([]++vs) []) Q E s₁) E hml rm st hds fun vs s₁ x₁ r₁=>⟨x₁.keep _ _ ho,wpAny_call (codeAny_mono (hc A s₁ W vs rm (C.top.mono _ _ st.tp x₁.keep) (st.sh.keeps x₁.keep) r₁) fun r s' hr=> ?_)⟩
  ·rw [starEach_cons hst] at this ⊢
   exact evalArgs_plain this
  ·refine ea13 hr fun v Z1 y rr=> ?_;subst Z1
   exact h _ _ (x₁.trans y) rr
theorem se_blt (C:Ctx prog w T V F Φ B k) {f:Str} {a:ME} (ha:SE prog w T V Φ B k a):SE prog w T V Φ B k (.blt f a):=by
 intro sc e A env W ρ s d' Q E hm rm st he h
 apply onCall_el hm;clear hm;intro c xs ks pos hm
 apply onName_el hm;clear hm;intro g Z hm
 apply on1_el hm;clear hm;intro x hm
 refine and6 hm fun hk hf hd hg hma hst=> ?_
 clear hm;obtain rfl:=nilB hk;obtain rfl:=eqB hf;have hd:=notB hd;have hg:=eqB hg
 refine bindE he fun d hdd he=> ?_
 refine ea13 (C.bl _ _ _ he) fun fv hfv hnr hc=> ?_
 refine wpAny_Call_Name_kw (name_glob st.es hg hd (C.top.blt _ st.tp _ _ hfv) ?_)
 refine callWith_of (P:=fun Z=>True) (by refine rwl (starEach_cons hst) ?_;rfl) (fun h' Z=>⟨.machine,.inr (.inl rfl),keeper_mach hnr⟩) ?_
 refine rwl (starEach_cons hst) ?_
 refine evalArgs_plain (PySem.Calls.spliced_cons (se_own1 C ha hma rm st hdd fun v s₁ x₁ r₁=>PySem.Calls.spliced_nil ⟨trivial,?_⟩))
 exact hc A s₁ W v Q E rm.zero (C.top.mono _ _ st.tp x₁.keep) (st.sh.keeps x₁.keep) r₁ (h.ext x₁)
theorem attrBase_plain {o:Expr} {n:Str} {env:Env} {t:Sem Value} (h:plainBase o=true):attributeBase o n env t=t:=by
 rcases o with _|_|_|_|_|_|_|_|_|_|_|_|_|_|_|_|_|_|_|_|_|_|_|_|_|_|_<;>first|rfl|exact ff h
theorem meth0 {A:Around} {E:Value->Shared->Prop} {s:Shared} {env:Env} {o:Expr} {name:Str} {ap pos:Pos} {Q:Value->Shared->Prop} (hb:plainBase o=true) (hp:(ap.endLine==pos.line)=true)
  (h:wpAny (model prog w) A (eval o env) (fun ov s₁=>MethodOnS prog w A E name ov pos [] Q s₁) E s):wpAny (model prog w) A (eval (.Call (.Attribute o name ap) [] [] pos) env) Q E s:=
 wpAny_Call_method_lateS (attrBase_plain hb) rfl hp h
theorem se_met {f:Str} {a:ME} (ha:SE prog w T V Φ B k a):SE prog w T V Φ B k (.met f a):=by
 intro sc e A env W ρ s d' Q E hm rm st he h
 apply onCall_el hm;clear hm;intro c xs ks pos hm
 apply onAttribute_el hm;clear hm;intro o n ap hm
 refine and7 hm fun hk hx hf hma hb hp hl=> ?_
 clear hm;obtain rfl:=nilB hk;obtain rfl:=nilB hx;obtain rfl:=eqB hf
 refine bindE he fun d hdd he=> ?_
 refine meth0 hb hp (ha sc _ A env W ρ s d _ E hma rm st hdd fun v s₁ x₁ r₁=> ?_)
 cases r₁ with
 | str x t hx=>
  simp only [metD] at he
  rcases Bool.or_eq_true_iff.mp hl with hf|hf<;>obtain rfl:=eqB hf
  ·refine ea02 (iteE ((if_pos rfl).symm.trans he)) fun hc e=> ?_
   exact SB.lower (notB (andB hc).2) (h _ _ (x₁.trans (Ext.toks s₁ _)) (e ▸ .str _ _ (andB hc).1))
  ·refine ea02 (iteE (((if_neg (by decide)).trans (if_pos rfl)).symm.trans he)) fun hc e=> ?_
   exact SB.upper (notB (andB hc).2) (h _ _ (x₁.trans (Ext.toks s₁ _)) (e ▸ .str _ _ (andB hc).1))
 | _=>exact nnE he
theorem sub_ops (slice:Expr) (o i:Value) : ∃ ops,subscripted slice false o i=operate ops (getItem o i):=by
 rcases slice with _|_|_|_|_|_|_|_|_|_|_|_|_|_|_|_|_|_|_|_|_|_|_|_|_|_|⟨l,u,t,p⟩
 case Slice=>rcases t with _|_<;>exact ⟨_,rfl⟩
 all_goals exact ⟨_,rfl⟩
theorem se_idx (C:Ctx prog w T V F Φ B k) {a i:ME} (ha:SE prog w T V Φ B k a) (hi:SE prog w T V Φ B k i):SE prog w T V Φ B k (.idx a i):=by
 intro sc e A env W ρ s d' Q E hm rm st he h
 apply onSubscript_el hm;clear hm;intro v j Z hm
 refine and2 hm fun h1 h2=> ?_
 refine bindE he fun x hx he=> ?_
 refine bindE he fun y hy he=> ?_
 refine Subscript_ (se_own1 C ha h1 rm st hx fun v s₁ x₁ r₁=> ?_)
 refine hi sc _ A env W ρ s₁ y _ E h2 rm (st.ext C.top x₁) hy fun u s₂ x₂ r₂=> ?_
 exact op_idx (r₁.keeps x₂.keep) r₂ he (h.ext (x₁.trans x₂)) (sub_ops _ _ _)
theorem part_of (C:Ctx prog w T V F Φ B k) {m:ME} (hs:SE prog w T V Φ B k m) {sc:Sc} {o:Option Expr} {A:Around} {env:Env} {W:List Addr} {ρ:Loc} {s:Shared} {d:D} {Q:Value->Shared->Prop} {E:Value->Shared->Prop}
  (hm:(match o with|some l=>mt m sc l|none=>noneOr m)=true) (rm:Room A k) (st:St T V W env sc ρ s) (he:ev Φ B m ρ=some d) (h:Gives s W d Q):wpAny (model prog w) A (evalPart o env) Q E s:=by
 rcases o with _|l
 ·rcases m with d'|_|_|_|_|_|_|_|_|_|_|_|_|_|_|_|_|_|_|_|_
  case c=>
   rcases d' with _|_|_|_|_|_|_
   case none=>obtain rfl:=Option.some.inj he;exact wpAny_evalPart_none (h _ _ (Ext.refl s) .none)
   all_goals exact ff hm
  all_goals exact ff hm
 ·exact wpAny_evalPart_some (hs sc l A env W ρ s d Q E hm rm st he h)
theorem se_sl (C:Ctx prog w T V F Φ B k) {a lo hi t:ME} (ha:SE prog w T V Φ B k a) (hlo:SE prog w T V Φ B k lo) (hhi:SE prog w T V Φ B k hi) (ht:SE prog w T V Φ B k t):SE prog w T V Φ B k (.sl a lo hi t):=by
 intro sc e A env W ρ s d' Q E hm rm st he h
 apply onSubscript_el hm;clear hm;intro v i Z hm
 apply onSlice_el hm;clear hm;intro l u t Z hm
 refine and4 hm fun ma ml mh mst=> ?_
 refine bindE he fun x hx he=> ?_
 refine bindE he fun l hl he=> ?_
 refine bindE he fun u hu he=> ?_
 refine bindE he fun z hz he=> ?_
 refine Subscript_ (se_own1 C ha ma rm st hx fun v s₁ x₁ r₁=> ?_)
 refine wpAny_Slice (part_of C hlo ml rm (st.ext C.top x₁) hl fun vl s₂ x₂ r₂=> ?_)
 refine part_of C hhi mh rm (st.ext C.top (x₁.trans x₂)) hu fun vu s₃ x₃ r₃=> ?_
 refine part_of C ht mst rm (st.ext C.top ((x₁.trans x₂).trans x₃)) hz fun vt s₄ x₄ r₄=> ?_
 have y:=Ext.push' s₄ { cls:= .type "slice", data:= .fields #[vl,vu,vt] }
 have xx:=((x₁.trans x₂).trans x₃).trans x₄
 exact op_sl (r₁.keeps (((x₂.trans x₃).trans x₄).trans y).keep) (st.sh.keeps (xx.trans y).keep) (r₂.ext ((x₃.trans x₄).trans y)) (r₃.ext (x₄.trans y)) (r₄.ext y) he (Heap.get?_push_size _ rfl) (h.ext (xx.trans y)) (sub_ops _ _ _)
theorem se_join (C:Ctx prog w T V F Φ B k) {sep:Str} {a:ME} (ha:SE prog w T V Φ B k a):SE prog w T V Φ B k (.join sep a):=by
 intro sc e A env W ρ s d' Q E hm rm st he h
 apply onCall_el hm;clear hm;intro c xs ks pos hm
 apply onAttribute_el hm;clear hm;intro o n ap hm
 apply onConstant_el hm;clear hm;intro c Z Z hm
 apply onTxt_el hm;clear hm;intro y hm
 apply on1_el hm;clear hm;intro x hm
 refine and7 hm fun hk hn hy hsep hma hst hp=> ?_
 clear hm;obtain rfl:=nilB hk;obtain rfl:=eqB hn;obtain rfl:=eqB hy
 refine bindE he fun d hdd he=> ?_
 refine wpAny_Call_method_lateS (attrBase_plain rfl) (by refine rwl (starEach_cons hst) ?_;rfl) hp (wpAny_Constant_str ?_)
 have y₀:=Ext.toks s (s.toks+1)
 refine ⟨"str", _,PySem.F.plainAttrs_str,PySem.F.slot_str_join,PySem.F.type_str_join,typeIs_str _ _ _,(fun Z e=>nomatch e),?_⟩
 refine callWith_of (P:=fun Z=>True) (by refine rwl (starEach_cons hst) ?_;rfl) (fun h' Z=>⟨.machine,.inr (.inl rfl),keeper_mach (fun Z e=>nomatch e)⟩) ?_
 refine rwl (starEach_cons hst) ?_
 refine evalArgs_plain (PySem.Calls.spliced_cons (se_own1 C ha hma rm (st.ext C.top y₀) hdd fun v s₁ x₁ r₁=>PySem.Calls.spliced_nil ⟨trivial,?_⟩))
 have z:=y₀.trans x₁
 exact C.jn sep d d' he A s₁ W v _ Q E rm.zero (C.top.mono _ _ st.tp z.keep) (st.sh.keeps z.keep) hsep r₁ (h.ext z)
end
end Mine

namespace Mine
open PySem PySem.W PySem.Calls PyProof.Rows PySem.SeqAt
section
variable {prog:Program} {w:World} {A:Around} {E:Value->Shared->Prop} {s:Shared} {env:Env} {sc:Sc}
theorem items_rep {W:List Addr} {h:Heap} {v:Value} {d:D} {ds:List D} (r:Rep W h v d) (e:items? d=some ds) : ∃ a vs n,v = .ref a/\(h.get? a=some (lObj vs n)\/h.get? a=some (tObj vs n))/\RepL W h vs ds:=by
 cases r with
 | list _ e' r=>simp only [items?,Option.some.injEq] at e;subst e;exact ⟨_,_,_,rfl,.inl e',r⟩
 | tup _ e' r=>simp only [items?,Option.some.injEq] at e;subst e;exact ⟨_,_,_,rfl,.inr e',r⟩
 | _=>simp [items?] at e
theorem unpack_two {W:List Addr} {v:Value} {d:D} {t1 t2:Value->Sem Unit} {d1 d2:D} {Q:Unit->Shared->Prop} (hh:A.handled=none) (r:Rep W s.heap v d) (e:items? d=some [d1,d2])
  (h : ∀ v1 v2 s',Ext s s'->Rep W s'.heap v1 d1->Rep W s'.heap v2 d2->wpAny (model prog w) A (t1 v1) (fun Z s₁=>wpAny (model prog w) A (t2 v2) Q E s₁) E s') :
  wpAny (model prog w) A (unpack v [(false,t1),(false,t2)]) Q E s:=by
 refine ea33 (items_rep r e) fun a vs n Z3 ho rl=> ?_;subst Z3
 have hlen:=rl.length
 have fin : ∀ h',Heap.ExtBut s.heap.objs.size s.heap h'->wpAny (model prog w) A (assignInOrder [t1,t2] vs) Q E { s with heap:=h' }:=fun h' hk=>by
  have x:Ext s { s with heap:=h' }:=Ext.heap s.toks fun b o e=>hk b o (Nat.ne_of_lt (Heap.lt_size e)) e
  apply rl.two_el;intro Z Z r1 r2
  exact wpAny_assignInOrder_more (wpAny_mono (h _ _ _ x (r1.ext x) (r2.ext x)) (fun Z s₁ q=>wpAny_assignInOrder_more (wpAny_mono q (fun Z s₂ q=>wpAny_assignInOrder_none q) fun Z Z e=>e)) fun Z Z e=>e)
 have e2:vs.length=2:=by refine rwl hlen ?_;rfl
 have sz:vs.toArray.size=2:=by exact e2
 rcases ho with ho|ho
 ·refine wpAny_bind (wpAny_holding ?_)
  show wpAny _ _ (unpackItems (.ref a) 2 none) _ _ _
  have:=kun_itemsOf (prog:=prog) (w:=w) (E:=E) (Q:=fun xs s'=>wpAny (model prog w) A (assignInOrder [t1,t2] xs) Q E s') hh (isList_of ho) (fun h' hk=>by exact fin h' hk)
  rw [sz] at this
  exact this
 ·refine wpAny_unpack_tuple hh (isTup_of ho) sz.symm rfl fun h' hk=> ?_
  exact fin h' hk
theorem assign_tg {W:List Addr} {ρ ρ':Loc} {tg:Tg} {t:Expr} {v:Value} {d:D} {Q:Unit->Shared->Prop} (hh:A.handled=none) (es:EnvS env sc) (fr:FrameS env s.heap) (b:Bears W env s.heap sc ρ)
  (ht:tgOk tg t=true) (hx : ∀ x∈tgNames tg,sc.lookup x=some .local\/sc.lookup x=some .cell)
  (hW : ∀ a∈W,¬ Slots env a) (r:Rep W s.heap v d) (hb:bindT tg d ρ=some ρ')
  (h : ∀ s',FrameS env s'.heap->Bears W env s'.heap sc ρ'->Chg (fun a=> ∃ y∈tgNames tg,a=slotOf env sc y) (fun Z=>False) s s'->Q () s'):wpAny (model prog w) A (assign t env v) Q E s:=by
 rcases tg with x|xs
 ·apply tgn_el ht;clear ht;intro p
  obtain rfl:=Option.some.inj hb
  exact assign_name es fr b (hx _ List.mem_cons_self) hW r fun s' f' b' c'=>h s' f' b' (c'.mono (fun a ha=>⟨_,List.mem_cons_self,ha⟩) fun Z q=>q)
 ·revert hx hb h
  apply tgt_el ht;clear ht;intro a1 a2 Z Z Z Z hx hb h
  refine ea22 (bindT2 hb) fun d1 d2 hds Z3=> ?_;subst Z3
  have m1:a1∈tgNames (.t [a1,a2]):=List.mem_cons_self
  have m2:a2∈tgNames (.t [a1,a2]):=List.mem_cons_of_mem _ List.mem_cons_self
  refine rwl (assign_Tuple _ _ _ _) ?_
  refine wpAny_bind (wpAny_standAt ?_)
  refine unpack_two (W:=W) hh r hds fun v1 v2 s₁ x₁ r1 r2=> ?_
  refine assign_name es (fr.ext x₁) (b.keeps x₁.keep) (hx _ m1) hW r1 fun s₂ fr₂ b₂ c₂=> ?_
  have c₂':=c₂.mono (P':=Slots env) (G':=fun Z=>False) (fun a ha=>ha▸slot_in es (hx _ m1)) fun Z q=>q
  refine assign_name es fr₂ b₂ (hx _ m2) hW (r2.chg c₂' (fr.ext x₁).blind) fun s₃ fr₃ b₃ c₃=> ?_
  exact h s₃ fr₃ b₃ (x₁.chg.trans ((c₂.mono (fun a ha=>⟨_,m1,ha⟩) fun Z q=>q).trans (c₃.mono (fun a ha=>⟨_,m2,ha⟩) fun Z q=>q)))
structure It (prog:Program) (w:World) (A:Around) (T:Heap->Prop) (I:Addr) (W:List Addr) (ds:List D) (own:Addr->Prop) (G:Nat->Prop) (St:Nat->Shared->Prop):Prop where
 frame : ∀ i s s',St i s->T s'.heap->(∀ b o,(own b\/(b∉W/\isSeq o))->s.heap.get? b=some o->s'.heap.get? b=some o)->(∀ j x,G j->s.gens[j]? = some x->s'.gens[j]? = some x)->St i s'
 item : ∀ i s d (Q:Option Value->Shared->Prop) (E:Value->Shared->Prop),St i s->ds[i]? = some d->(∀ v s',St (i+1) s'->Chg own G s s'->(Shut W s'.heap->Rep W s'.heap v d)->Q (some v) s')->wpAny (model prog w) A (pyNext (.ref I)) Q E s
 done : ∀ s (Q:Option Value->Shared->Prop) (E:Value->Shared->Prop),St ds.length s->(∀ s',Chg own G s s'->Q none s')->wpAny (model prog w) A (pyNext (.ref I)) Q E s
 self : ∀ i s (Q:Value->Shared->Prop) (E:Value->Shared->Prop),St i s->Q (.ref I) s->wpAny (model prog w) A (pyIter (.ref I)) Q E s
 blind : ∀ i s,St i s -> ∀ a,own a -> ∀ o,s.heap.get? a=some o -> ¬ isSeq o
 letgo : ∀ {A:Around} i s t v (Q:Unit->Shared->Prop) (E:Value->Shared->Prop),St i s->Q () s->wpAny (model prog w) A (letOwnedTupleGo t (.ref I) v) Q E s
theorem letgo_other {t:Expr} {I:Addr} {v:Value} {o:Obj} {Q:Unit->Shared->Prop} {T:String} (ho:s.heap.get? I=some o) (hc:o.cls = .type T) (hn:(["enumerate", "zip", "dict_itemiterator", "dict_reverseitemiterator", "odict_iterator", "itertools.zip_longest", "itertools.pairwise"]:List String).contains T=false)
  (h:Q () s):wpAny (model prog w) A (letOwnedTupleGo t (.ref I) v) Q E s:=by
 have fin : ∀ a,wpAny (model prog w) A (do
   let o <- load I
   match o.cls,o.data with
   | .type n,.fields vs=>
    if ["enumerate", "zip", "dict_itemiterator", "dict_reverseitemiterator", "odict_iterator", "itertools.zip_longest", "itertools.pairwise"].contains n&&vs[0]? == some (rawInt a) then
     rule "for.unpacks-the-owned-tuple"
     updateField I 0 .none
   | _,_=>pure ()) Q E s:=fun a=>by
  refine wpAny_bind (wpAny_load ho ?_)
  refine rwl hc ?_
  rcases o.data with _|_|_|_|_|_|_|_|_|_|_<;>first|exact wpAny_pure h|(simp only [hn,Bool.false_and,Bool.false_eq_true,if_false];exact wpAny_pure h)
 unfold letOwnedTupleGo
 split
 ·rcases v with _|_|_|_|_|_|_|_|_|_|_<;>first|exact wpAny_pure h|exact fin _
 ·rcases v with _|_|_|_|_|_|_|_|_|_|_<;>first|exact wpAny_pure h|exact fin _
 ·exact wpAny_pure h
theorem it_seq {T:Heap->Prop} (hh:A.handled=none) {I ax:Addr} {W:List Addr} {vs:List Value} {n:Nat} {ds:List D} (hne:ax≠I) (tup:Bool) :
  It prog w A T I W ds (·= I) (fun Z=>False) (fun i s=>ax∉W/\(if tup then s.heap.IsTupleIter I ax i else s.heap.IsListIter I ax i)/\s.heap.get? ax=some (if tup then tObj vs n else lObj vs n)/\RepL W s.heap vs ds):=by
 have hsq:isSeq (if tup then tObj vs n else lObj vs n):=by rcases tup with _|_<;>exact ⟨vs,n,by simp⟩
 have keepI : ∀ {h h':Heap} {i:Nat},(if tup then h.IsTupleIter I ax i else h.IsListIter I ax i)->(∀ o,h.get? I=some o->h'.get? I=some o)->(if tup then h'.IsTupleIter I ax i else h'.IsListIter I ax i):=by
  intro h h' i x hk
  rcases tup with _|_
  ·refine ea12 x fun o ho r=> ?_;exact ⟨o,hk _ ho,r⟩
  ·refine ea12 x fun o ho r=> ?_;exact ⟨o,hk _ ho,r⟩
 have one : ∀ {s:Shared} {h':Heap} {i:Nat},(if tup then s.heap.IsTupleIter I ax i else s.heap.IsListIter I ax i)->s.heap.get? ax=some (if tup then tObj vs n else lObj vs n)->RepL W s.heap vs ds->Heap.ExtBut I s.heap h' ->
   h'.get? ax=some (if tup then tObj vs n else lObj vs n)/\RepL W h' vs ds/\Chg (·= I) (fun Z=>False) s { s with heap:=h' }:=by
  intro s h' i x hax' r hs
  refine ⟨hs _ _ hne hax',r.but (fun b o hb e=>hs b o hb e) (.inr fun o e hq=> ?_),⟨fun b o hb e=>hs b o hb e,rfl,fun Z Z Z e=>e,fun h=>h⟩⟩
  ·have hd : ∃ fs,o.data = .fields fs:=by
    rcases tup with _|_
    ·refine ea13 x fun o' ho' hc hd=> ?_;rw [e] at ho';obtain rfl:=Option.some.inj ho';exact ⟨_,hd⟩
    ·refine ea13 x fun o' ho' hc hd=> ?_;rw [e] at ho';obtain rfl:=Option.some.inj ho';exact ⟨_,hd⟩
   refine ea11 hd fun fs hd=> ?_
   obtain ⟨vs,n,e1|e1⟩:=hq<;>rw [e1] at hd<;>cases hd
 refine ⟨fun i s s' ⟨hax,st⟩ _ hk _=>⟨hax,keepI st.1 fun o e=>hk I o (.inl rfl) e,hk ax _ (.inr ⟨hax,hsq⟩) st.2.1,st.2.2.mono fun a o ha hq e=>⟨ha,hk a o (.inr ⟨ha,hq⟩) e⟩⟩,?_,?_,?_,?_,?_⟩
 ·intro i s d Q E st hd h
  refine ea04 st fun hnW x hax' r=> ?_
  refine ea12 (r.get hd) fun v hv rv=> ?_
  rcases tup with _|_
  ·refine wpAny_pyNext_list_item x (isList_of hax') (x:=v) (by simpa using hv) fun h' hit' hs'=> ?_
   refine ea03 (one x hax' r hs'.extBut) fun h1 h2 h3=> ?_
   refine ea12 (h2.get hd) fun v' hv' rv'=> ?_
   rw [hv] at hv';obtain rfl:=Option.some.inj hv'
   exact h v { s with heap:=h' } ⟨hnW,hit',h1,h2⟩ h3 fun Z=>rv'
  ·refine wpAny_pyNext_tuple_item x (isTup_of hax') (x:=v) (by simpa using hv) fun h' hit' hs'=> ?_
   refine ea03 (one x hax' r hs'.extBut) fun h1 h2 h3=> ?_
   refine ea12 (h2.get hd) fun v' hv' rv'=> ?_
   rw [hv] at hv';obtain rfl:=Option.some.inj hv'
   exact h v { s with heap:=h' } ⟨hnW,hit',h1,h2⟩ h3 fun Z=>rv'
 ·intro s Q E st h
  refine ea04 st fun hnW x hax' r=> ?_
  have hlen:=r.length
  rcases tup with _|_
  ·exact wpAny_pyNext_list_end hh x (isList_of hax') (by simp;exact Nat.le_of_eq hlen) fun h' hs'=>h { s with heap:=h' } (one x hax' r hs').2.2
  ·exact wpAny_pyNext_tuple_end hh x (isTup_of hax') (by simp;exact Nat.le_of_eq hlen) fun h' hs'=>h { s with heap:=h' } (one x hax' r hs').2.2
 ·intro i s Q E st h
  refine ea04 st fun Z x Z Z=> ?_
  rcases tup with _|_
  ·exact wpAny_pyIter_listiter x h
  ·exact wpAny_pyIter_tupleiter x h
 ·rintro i s ⟨_,x,_,_⟩ a rfl o e hq
  have hd : ∃ fs,o.data = .fields fs:=by
   rcases tup with _|_
   ·refine ea13 x fun o' ho' hc hd=> ?_;rw [e] at ho';obtain rfl:=Option.some.inj ho';exact ⟨_,hd⟩
   ·refine ea13 x fun o' ho' hc hd=> ?_;rw [e] at ho';obtain rfl:=Option.some.inj ho';exact ⟨_,hd⟩
  refine ea11 hd fun fs hd=> ?_
  obtain ⟨vs,n,e1|e1⟩:=hq<;>rw [e1] at hd<;>cases hd
 ·intro A' i s t v Q E st h
  refine ea04 st fun Z x Z Z=> ?_
  rcases tup with _|_
  ·refine ea13 x fun o ho hc Z=> ?_;exact letgo_other ho hc rfl h
  ·refine ea13 x fun o ho hc Z=> ?_;exact letgo_other ho hc rfl h
theorem rngD_get {n:Int} {i:Nat} {d:D} (h:(rngD n)[i]? = some d):(i:Int)<n/\d = .int i:=by
 unfold rngD at h
 rw [List.getElem?_map,Option.map_eq_some_iff] at h
 obtain ⟨j,hj,rfl⟩:=h
 refine ea11 (List.getElem?_eq_some_iff.mp hj) fun hlt Z1=> ?_;subst Z1
 simp at hlt ⊢
 exact hlt
theorem rngD_len (n:Int):(rngD n).length=n.toNat:=by unfold rngD;simp
theorem it_range {T:Heap->Prop} (hh:A.handled=none) {I:Addr} {W:List Addr} {n:Int} (h0:0<=n):It prog w A T I W (rngD n) (·= I) (fun Z=>False) (fun i s=>IsRangeIter s.heap I (i:Int) (n-i) 1):=by
 have hkp : ∀ {s:Shared} {h':Heap} {t:Nat},Heap.ExtBut I s.heap h'->Chg (·= I) (fun Z=>False) s { s with heap:=h',toks:=t }:=fun hs=>⟨fun b o hb e=>hs b o hb e,rfl,fun Z Z Z e=>e,fun h=>h⟩
 refine ⟨fun i s s' st Z hk Z=>hk I _ (.inl rfl) st,?_,?_,?_,?_,?_⟩
 ·intro i s d Q E st hd h
  refine ea02 (rngD_get hd) fun hlt Z1=> ?_;subst Z1
  refine wpAny_pyNext_range_item st (by exact Int.sub_pos_of_lt hlt) fun h' hit' hs'=> ?_
  refine h _ { s with heap:=h',toks:=s.toks+1 } ?_ (hkp hs'.extBut) fun Z=> .int _ _
  have e1:((i+1:Nat):Int)=(i:Int)+1:=by exact Int.natCast_add _ _
  have e2:n-((i:Int)+1)=n-i-1:=by exact Eq.symm (Int.sub_sub _ (↑_:Int) 1)
  show IsRangeIter h' I ((i+1:Nat):Int) (n-((i+1:Nat):Int)) 1
  refine rwl e1 (rwl e2 ?_);exact hit'
 ·intro s Q E st h
  rw [rngD_len] at st
  exact wpAny_pyNext_range_end hh st (by exact H417) fun h' hs'=>h { s with heap:=h' } (hkp (t:=s.toks) hs')
 ·intro i s Q E st h
  exact wpAny_pyIter_rangeiter st h
 ·rintro i s st a rfl o e hq
  have st':s.heap.get? a=some _:=st
  rw [e] at st'
  have st2:=Option.some.inj st'
  obtain ⟨vs,n,e1|e1⟩:=hq<;>(rw [e1] at st2;have:=congrArg Obj.data st2;cases this)
 ·intro A' i s t v Q E st h
  exact letgo_other st rfl rfl h
structure ItF (prog:Program) (w:World) (T:Heap->Prop) (k:Nat) (I:Addr) (ds:List D) (own:Addr->Prop) (G:Nat->Prop) (St:List Addr->Nat->Shared->Prop):Prop where
 it : ∀ A W,Room A k->It prog w A T I W ds own G (St W)
 grow : ∀ W W' i s,St W i s->(∀ a∈W',a∈W\/s.heap.get? a=none)->St W' i s
 here : ∀ W i s a,St W i s->own a -> ∃ o,s.heap.get? a=some o
 hereG : ∀ W i s j,St W i s->G j -> ∃ x,s.gens[j]? = some x
theorem RepL.up {W W':List Addr} {h:Heap} {vs:List Value} {ds:List D} (r:RepL W h vs ds) (hW : ∀ a∈W',a∈W\/h.get? a=none):RepL W' h vs ds:=
 r.mono fun a o ha Z e=>⟨fun hm=>(hW a hm).elim ha (fun q=>by exact nomatch q.symm.trans e),e⟩
theorem itF_seq {T:Heap->Prop} {k:Nat} {I ax:Addr} {vs:List Value} {n:Nat} {ds:List D} (hne:ax≠I) (tup:Bool) :
  ItF prog w T k I ds (·= I) (fun Z=>False) (fun W i s=>ax∉W/\(if tup then s.heap.IsTupleIter I ax i else s.heap.IsListIter I ax i)/\s.heap.get? ax=some (if tup then tObj vs n else lObj vs n)/\RepL W s.heap vs ds):=by
 refine ⟨fun A W rm=>it_seq rm.hh hne tup,fun W W' i s st hW=>⟨fun hm=> ?_,st.2.1,st.2.2.1,st.2.2.2.up hW⟩,fun W i s a st ha=> ?_,fun W i s j Z h=>h.elim⟩
 ·rcases hW ax hm with q|q
  ·exact st.1 q
  ·exact nomatch q.symm.trans st.2.2.1
 ·subst ha
  refine ea04 st fun Z x Z Z=> ?_
  rcases tup with _|_
  ·refine ea12 x fun o ho Z=> ?_;exact ⟨o,ho⟩
  ·refine ea12 x fun o ho Z=> ?_;exact ⟨o,ho⟩
theorem itF_range {T:Heap->Prop} {k:Nat} {I:Addr} {n:Int} (h0:0<=n):ItF prog w T k I (rngD n) (·= I) (fun Z=>False) (fun Z i s=>IsRangeIter s.heap I (i:Int) (n-i) 1):=
 ⟨fun A W rm=>it_range rm.hh h0,fun Z Z Z Z st Z=>st,fun Z Z Z Z st ha=>by subst ha;exact ⟨_,st⟩,fun Z Z Z Z Z h=>h.elim⟩
set_option tactic.hygienic true in
theorem iter_seq {W:List Addr} {v:Value} {d:D} {ds:List D} {Q:Value->Shared->Prop} (r:Rep W s.heap v d) (e:items? d=some ds)
  (h : ∀ I s' (St:List Addr->Nat->Shared->Prop),Ext s s'->s.heap.get? I=none->(∃ o,s'.heap.get? I=some o)->(∀ T k,ItF prog w T k I ds (·= I) (fun Z=>False) St) ->
   (∀ W' s'',(∀ a∈W',a∈W\/s'.heap.get? a=none)->Ext s' s''->St W' 0 s'')->Q (.ref I) s'):wpAny (model prog w) A (pyIter v) Q E s:=by
 have hI:s.heap.get? s.heap.objs.size=none:=get?_lt (Nat.le_refl _)
 cases r with
 | list ha e' r=>
  rename_i a vs n ds'
  simp only [items?,Option.some.injEq] at e;subst e
  refine wpAny_pyIter_list (isList_of e') ?_
  have hne:a≠s.heap.objs.size:=Nat.ne_of_lt (Heap.lt_size e')
  have x₁:=Ext.push' s { cls:= .type "list_iterator", data:= .fields #[.ref a,rawInt 0] }
  refine h _ _ _ x₁ hI ⟨_,Heap.get?_push_size _ rfl⟩ (fun T k=>itF_seq (vs:=vs) (n:=n) hne false) fun W' s'' hW x=>⟨fun hm=> ?_,⟨_,x.keep _ _ (Heap.get?_push_size _ rfl),rfl,rfl⟩,x.keep _ _ (x₁.keep _ _ e'),((r.ext x₁).up hW).ext x⟩
  rcases hW a hm with q|q
  ·exact ha q
  ·exact absurd ((x₁.keep _ _ e').symm.trans q) (by intro z;cases z)
 | tup ha e' r=>
  rename_i a vs n ds'
  simp only [items?,Option.some.injEq] at e;subst e
  refine wpAny_pyIter_tuple (isTup_of e') ?_
  have hne:a≠s.heap.objs.size:=Nat.ne_of_lt (Heap.lt_size e')
  have x₁:=Ext.push' s { cls:= .type "tuple_iterator", data:= .fields #[.ref a,rawInt 0] }
  refine h _ _ _ x₁ hI ⟨_,Heap.get?_push_size _ rfl⟩ (fun T k=>itF_seq (vs:=vs) (n:=n) hne true) fun W' s'' hW x=>⟨fun hm=> ?_,⟨_,x.keep _ _ (Heap.get?_push_size _ rfl),rfl,rfl⟩,x.keep _ _ (x₁.keep _ _ e'),((r.ext x₁).up hW).ext x⟩
  rcases hW a hm with q|q
  ·exact ha q
  ·exact absurd ((x₁.keep _ _ e').symm.trans q) (by intro z;cases z)
 | _=>simp [items?] at e
theorem iter_range {W:List Addr} {v:Value} {n:Int} {Q:Value->Shared->Prop} (r:Rep W s.heap v (.int n)) (h0:0<=n) (h1:n<=1000)
  (h : ∀ I s' (St:List Addr->Nat->Shared->Prop),Ext s s'->s.heap.get? I=none->(∃ o,s'.heap.get? I=some o)->(∀ T k,ItF prog w T k I (rngD n) (·= I) (fun Z=>False) St) ->
   (∀ W' s'',Ext s' s''->St W' 0 s'')->Q (.ref I) s'):wpAny (model prog w) A (call (.type "range") [v]) (fun x s₁=>wpAny (model prog w) A (pyIter x) Q E s₁) E s:=by
 cases r with
 | int _ t=>
  have hI:s.heap.get? (s.heap.objs.size+1)=none:=get?_lt (Nat.le_succ _)
  refine call_range_1 ?_
  have x₁:Ext s { s with heap:=s.heap.push { cls:= .type "range", data:= .fields #[.int 0 s.toks,.int n t,.int 1 (s.toks+1)] },toks:=s.toks+1+1 }:=Ext.push s _ _
  have sz:Builtin.Range.rangeSize 0 n 1=n:=by
   unfold Builtin.Range.rangeSize
   by_cases q:0<n
   ·refine rwl (if_pos (by decide)) (rwl (if_pos q) ?_);exact H418
   ·refine rwl (if_pos (by decide)) (rwl (if_neg q) ?_);exact H419 q h0
  refine wpAny_pyIter_range (a:=0) (b:=n) (c:=1) (Heap.get?_push_size _ rfl) ?_ ?_
  ·unfold Builtin.Range.small
   refine rwl sz ?_
   simp [Builtin.Range.rangeFitsLong]
   exact And.intro (H407 h0 h1) (Or.inr (H407 h0 h1))
  ·have x₂:=x₁.trans (Ext.push' _ { cls:= .type "range_iterator", data:= .fields #[rawInt 0,rawInt (Builtin.Range.rangeSize 0 n 1),rawInt 1] })
   refine h _ _ (fun W' i s'=>IsRangeIter s'.heap (s.heap.objs.size+1) (i:Int) (n-i) 1) x₂ ?_ ?_ (fun T k=> ?_) fun W' s'' x=> ?_
   ·show s.heap.get? (s.heap.push _).objs.size=none
    refine rwl (Heap.size_push _ _) ?_;exact hI
   ·exact ⟨_,Heap.get?_push_size _ rfl⟩
   ·have e:(s.heap.push { cls:=Value.type "range", data:=Data.fields #[Value.int 0 s.toks,Value.int n t,Value.int 1 (s.toks+1)] }).objs.size=s.heap.objs.size+1:=Heap.size_push ..
    show ItF prog w T k (s.heap.push _).objs.size (rngD n) (·= (s.heap.push _).objs.size) _ _
    refine rwl e ?_
    exact itF_range h0
   ·refine x.keep _ _ ?_
    have e:(s.heap.push { cls:=Value.type "range", data:=Data.fields #[Value.int 0 s.toks,Value.int n t,Value.int 1 (s.toks+1)] }).objs.size=s.heap.objs.size+1:=Heap.size_push ..
    have e2:=Heap.get?_push_size (s.heap.push { cls:=Value.type "range", data:=Data.fields #[Value.int 0 s.toks,Value.int n t,Value.int 1 (s.toks+1)] }) (o:={ cls:= .type "range_iterator", data:= .fields #[rawInt 0,rawInt (Builtin.Range.rangeSize 0 n 1),rawInt 1] }) rfl
    rw [e] at e2
    rw [show rawInt ((0:Nat):Int)=rawInt 0 from rfl,show n-((0:Nat):Int)=Builtin.Range.rangeSize 0 n 1 by refine rwl sz ?_;exact Int.sub_zero _]
    exact e2
end
noncomputable def clF (env:Env):Sc->List (Str×Addr)->List (Str×Addr)
 | [],acc=>acc
 | (n,k)::r,acc=>if k == .free then clF env r ((n,(env.cells.lookup n).getD 0)::acc) else clF env r acc
theorem closure_is {env:Env} {scope:Scope} (h : ∀ n,(n,NameKind.free)∈scope.names -> ∃ c,env.cells.lookup n=some c):closureFor scope env=pure (clF env scope.names []):=by
 have key : ∀ (names:Sc) (acc:List (Str×Addr)),(∀ n,(n,NameKind.free)∈names -> ∃ c,env.cells.lookup n=some c) ->
   (forIn names acc (fun (x:Str×NameKind) (cs:List (Str×Addr))=>if (x.2==NameKind.free)=true then (do let a <- cellOf env x.1;pure (ForInStep.yield ((x.1,a)::cs)):Sem (ForInStep (List (Str×Addr)))) else pure (ForInStep.yield cs)))=(pure (clF env names acc):Sem (List (Str×Addr))):=by
  intro names
  induction names with
  | nil=>intro acc Z;refine rwl List.forIn_nil ?_;rfl
  | cons p r ih=>
   intro acc hh
   obtain ⟨n,k⟩:=p
   refine rwl (List.forIn_cons _ _ _ _) ?_
   by_cases hk:(k==NameKind.free)=true
   ·obtain ⟨c,hc⟩:=hh n (by refine lwr (beq_iff_eq.mp hk) ?_;exact List.mem_cons_self)
    have e1:cellOf env n=pure c:=by unfold cellOf;exact rwl hc rfl
    simp only [hk,if_true,e1,pure_bind]
    refine rwl (ih _ fun m hm=>hh m (List.mem_cons_of_mem _ hm)) ?_
    conv=>rhs;unfold clF
    refine rwl (if_pos hk) (rwl hc ?_);rfl
   ·simp only [hk,if_false,pure_bind,Bool.false_eq_true]
    refine rwl (ih _ fun m hm=>hh m (List.mem_cons_of_mem _ hm)) ?_
    conv=>rhs;unfold clF
    exact rwl (if_neg hk) rfl
 have:=key scope.names [] h
 show (forIn scope.names [] _ >>= fun cs=>pure cs)=_
 refine Eq.trans (congrArg (·>>= fun cs=>(pure cs:Sem (List (Str×Addr)))) (Eq.trans ?_ this)) ?_
 ·congr 1
 ·rfl
theorem clF_lookup (env:Env) (x:Str) : ∀ (names:Sc) (acc:List (Str×Addr)),(clF env names acc).lookup x=if (x,NameKind.free)∈names then some ((env.cells.lookup x).getD 0) else acc.lookup x
 | [],acc=>by simp [clF]
 | (n,k)::r,acc=>by
  unfold clF
  by_cases hk:(k==NameKind.free)=true
  ·refine rwl (if_pos hk) (rwl (clF_lookup env x r _) ?_)
   have:=beq_iff_eq.mp hk
   subst this
   by_cases hr:(x,NameKind.free)∈r
   ·exact rwl (if_pos hr) (rwl (if_pos (List.mem_cons_of_mem _ hr)) rfl)
   ·refine rwl (if_neg hr) (rwl List.lookup_cons ?_)
    by_cases hx:(x==n)=true
    ·have:=beq_iff_eq.mp hx
     subst this
     refine rwl (if_pos List.mem_cons_self) ?_
     simp
    ·refine rwl (if_neg (by
      intro hm
      rcases List.mem_cons.mp hm with e|hm
      ·cases e;exact hx (beq_self_eq_true _)
      ·exact hr hm)) ?_
     simp [hx]
  ·refine rwl (if_neg hk) (rwl (clF_lookup env x r _) ?_)
   have e:((x,NameKind.free)∈(n,k)::r)↔(x,NameKind.free)∈r:=by
    constructor
    ·intro hm
     rcases List.mem_cons.mp hm with e|hm
     ·cases e;exact absurd (beq_self_eq_true _) hk
     ·exact hm
    ·exact List.mem_cons_of_mem _
   simp only [e]
theorem cellsFrom_app : ∀ (names:Sc) (n:Nat) (acc:List (Str×Addr)),cellsFrom n names acc=cellsFrom n names []++acc
 | [],n,acc=>rfl
 | (x,k)::r,n,acc=>by
  unfold cellsFrom
  by_cases hk:(k==NameKind.cell)=true
  ·refine rwl (if_pos hk) (rwl (if_pos hk) (rwl (cellsFrom_app r (n+1) ((x,n)::acc)) (rwl (cellsFrom_app r (n+1) [(x,n)]) ?_)))
   simp
  ·refine rwl (if_neg hk) (rwl (if_neg hk) ?_);exact cellsFrom_app r n acc
theorem cellsFrom_mem : ∀ (names:Sc) (n:Nat) (x:Str) (c:Addr),(x,c)∈cellsFrom n names []->(x,NameKind.cell)∈names
 | [],n,x,c,h=>by simp [cellsFrom] at h
 | (y,k)::r,n,x,c,h=>by
  unfold cellsFrom at h
  by_cases hk:(k==NameKind.cell)=true
  ·rw [if_pos hk,cellsFrom_app] at h
   rcases List.mem_append.mp h with h|h
   ·exact List.mem_cons_of_mem _ (cellsFrom_mem r _ x c h)
   ·simp at h;obtain ⟨rfl,rfl⟩:=h;refine lwr (beq_iff_eq.mp hk) ?_;exact List.mem_cons_self
  ·rw [if_neg hk] at h;exact List.mem_cons_of_mem _ (cellsFrom_mem r _ x c h)
theorem cellsFrom_has : ∀ (names:Sc) (n:Nat) (x:Str),(x,NameKind.cell)∈names -> ∃ c,(cellsFrom n names []).lookup x=some c
 | [],n,x,h=>by simp at h
 | (y,k)::r,n,x,h=>by
  unfold cellsFrom
  by_cases hk:(k==NameKind.cell)=true
  ·refine rwl (if_pos hk) (rwl (cellsFrom_app _ _ _) (rwl List.lookup_append ?_))
   by_cases hr:(x,NameKind.cell)∈r
   ·refine ea11 (cellsFrom_has r (n+1) x hr) fun c hc=> ?_
    exact ⟨c,by refine rwl hc ?_;rfl⟩
   ·rcases List.mem_cons.mp h with e|h
    ·obtain ⟨rfl,rfl⟩:=Prod.mk.inj e
     rcases q:(cellsFrom (n+1) r []).lookup x with _|c
     ·exact ⟨n,by simp⟩
     ·exact ⟨c,rfl⟩
    ·exact absurd h hr
  ·refine rwl (if_neg hk) ?_
   rcases List.mem_cons.mp h with e|h
   ·cases e;exact absurd (beq_self_eq_true _) hk
   ·exact cellsFrom_has r n x h
theorem lookup_none {α:Type} {l:List (Str×α)} {n:Str} (h : ∀ c,(n,c)∉l):l.lookup n=none:=by
 rcases e:l.lookup n with _|c
 ·rfl
 ·exact absurd (mem_of_lookup e) (h c)
theorem nodup_lookup : ∀ {l:Sc} {n:Str} {k:NameKind},(l.map (·.1)).Nodup->(n,k)∈l->l.lookup n=some k
 | (m,j)::r,n,k,hd,h=>by
  rw [List.map_cons,List.nodup_cons] at hd
  rcases List.mem_cons.mp h with e|h
  ·cases e;simp
  ·have:(n==m)=false:=by
    rw [beq_eq_false_iff_ne];intro e
    exact hd.1 (by refine lwr e ?_;exact List.mem_map.mpr ⟨(n,k),h,rfl⟩)
   refine rwl List.lookup_cons (rwl this ?_)
   exact nodup_lookup hd.2 h
theorem relabel_lookup (env:Env) (x:Str) : ∀ (names:Sc),(names.map fun (n,k)=>if (k==NameKind.free&&env.scope.kind == .function&&env.kindOf n==some .cell) then (n,NameKind.cell) else (n,k)).lookup x =
  (names.lookup x).map fun k=>if (k==NameKind.free&&env.scope.kind == .function&&env.kindOf x==some .cell) then NameKind.cell else k
 | []=>rfl
 | (n,k)::r=>by
  refine rwl List.map_cons ?_
  have e1 : ∀ (b:Bool),(if b=true then (n,NameKind.cell) else (n,k))=(n,if b=true then NameKind.cell else k):=by intro b;rcases b with _|_<;>rfl
  show List.lookup x ((if (k==NameKind.free&&env.scope.kind == .function&&env.kindOf n==some .cell)=true then (n,NameKind.cell) else (n,k))::_)=_
  refine rwl (e1 _) (rwl List.lookup_cons (rwl List.lookup_cons ?_))
  rcases hx:x==n with _|_
  ·exact relabel_lookup env x r
  ·have:=beq_iff_eq.mp hx;subst this;rfl
section
variable {M:Model} {A:Around} {E:Value->Shared->Prop} {s:Shared}
noncomputable def compCells (env:Env) (scope:Scope) (C:Addr):List (Str×Addr):=cellsFrom (C+1) scope.names (clF env scope.names [])
noncomputable def compEnv' (env:Env) (scope:Scope) (C:Addr):Env:={ newEnv scope C env.globals (compCells env scope C) env.qual none .none (some env) builtinsNs with scope:=relabel scope env }
theorem newEnvC {env:Env} {scope:Scope} {cl:List (Str×Addr)} {qual:Str} {Q:Env->Shared->Prop}
  (hQ:Q (newEnv scope s.heap.objs.size env.globals (cellsFrom (s.heap.objs.size+1) scope.names cl) qual none .none (some env) builtinsNs) { s with heap:=pushCells (s.heap.push { cls:= .type "dict", data:= .dict #[] }) scope.names }) :
  wpAny M A (newFunctionEnv scope env.globals cl [] qual none .none (some env)) Q E s:=by
 simp only [newFunctionEnv,Option.isSome_some,if_true]
 refine wpAny_bind (wpAny_alloc ?_)
 refine wpAny_bind (wpAny_layCells _ (fun name kind cells=>by rcases hkc:kind==NameKind.cell with _|_<;>simp [hkc]) _ _ _ _ ?_)
 refine rwl (show ({ s with heap:=s.heap.push { cls:= .type "dict", data:= .dict #[] } }:Shared).heap.objs.size=s.heap.objs.size+1 from Heap.size_push ..) ?_
 refine rwl List.forIn_nil ?_
 exact wpAny_bind (wpAny_pure (wpAny_pure hQ))
end
theorem comp_frame {env:Env} {scope:Scope} {sc:Sc} {tgs:List Str} {h:Heap} (es:EnvS env sc) (fr : ∀ x c,env.cells.lookup x=some c -> ∃ v,h.IsCell c v) (ap : ∀ x y c,env.cells.lookup x=some c->env.cells.lookup y=some c->x=y)
  (ok:scOk sc tgs scope.names=true) (hk:scope.kind = .function) :
  EnvS (compEnv' env scope h.objs.size) scope.names/\FrameS (compEnv' env scope h.objs.size) (pushCells (h.push { cls:= .type "dict", data:= .dict #[] }) scope.names) /\
  (∀ a,Slots (compEnv' env scope h.objs.size) a->h.objs.size<=a \/ ∃ x,env.cells.lookup x=some a) /\
  (∀ x,(scope.names.lookup x=some .local\/scope.names.lookup x=some .cell)->h.objs.size<=slotOf (compEnv' env scope h.objs.size) scope.names x) /\
  (∀ x,scope.names.lookup x=some .free->(compEnv' env scope h.objs.size).cells.lookup x=env.cells.lookup x):=by
 unfold scOk at ok
 simp only [Bool.and_eq_true,List.all_eq_true,decide_eq_true_eq] at ok
 obtain ⟨⟨⟨k1,k2⟩,k3⟩,k4⟩:=ok
 have hfree : ∀ x,(x,NameKind.free)∈scope.names -> ∃ c,env.cells.lookup x=some c:=fun x hx=>by
  have:=k1 _ hx
  simp only [Bool.and_eq_true] at this
  have q:=this.1
  split at q
  ·exact (es.cel x (by assumption)).2
  ·exact (es.fre x (by assumption)).2
  ·exact nomatch q
 have ck:=cellsFrom_ok scope.names (h.push { cls:= .type "dict", data:= .dict #[] }) (h.objs.size+1) [] ⟨fun Z Z hm=>(nomatch hm),List.Pairwise.nil⟩ (by refine rwl (Heap.size_push _ _) ?_;exact Nat.le_refl _)
 rw [Heap.size_push] at ck
 have look : ∀ x,(compEnv' env scope h.objs.size).cells.lookup x=((cellsFrom (h.objs.size+1) scope.names []).lookup x).or (if (x,NameKind.free)∈scope.names then some ((env.cells.lookup x).getD 0) else none):=fun x=>by
  show (cellsFrom (h.objs.size+1) scope.names (clF env scope.names [])).lookup x=_
  refine rwl (cellsFrom_app _ _ _) (rwl List.lookup_append (rwl (clF_lookup _ _ _ _) ?_));rfl
 have lookF : ∀ x,(x,NameKind.free)∈scope.names->(compEnv' env scope h.objs.size).cells.lookup x=env.cells.lookup x:=fun x hx=>by
  refine rwl (look _) (rwl (lookup_none (l:=cellsFrom (h.objs.size+1) scope.names []) (fun c hm=>by
   have q:=nodup_lookup k2 (cellsFrom_mem _ _ _ _ hm)
   rw [nodup_lookup k2 hx] at q;exact nomatch q)) (rwl (if_pos hx) ?_))
  refine ea11 (hfree x hx) fun c hc=> ?_
  refine rwl hc ?_;rfl
 have lookC : ∀ x c,(compEnv' env scope h.objs.size).cells.lookup x=some c->((x,c)∈cellsFrom (h.objs.size+1) scope.names []/\h.objs.size+1<=c)\/((x,NameKind.free)∈scope.names/\env.cells.lookup x=some c):=fun x c hx=>by
  by_cases hf:(x,NameKind.free)∈scope.names
  ·exact .inr ⟨hf,(lookF x hf)▸hx⟩
  ·rw [look,if_neg hf,Option.or_none] at hx
   have:=mem_of_lookup hx
   exact .inl ⟨this,(ck.empty x c this).2⟩
 have kind : ∀ x,(compEnv' env scope h.objs.size).kindOf x=(scope.names.lookup x).map fun k=>if (k==NameKind.free&&env.scope.kind == .function&&env.kindOf x==some .cell) then NameKind.cell else k:=fun x=>relabel_lookup env x scope.names
 refine ⟨⟨hk,es.glob,es.blt,fun x hx=> ?_,fun x hx=> ?_,fun x hx=> ?_,fun x hx=> ?_⟩,⟨⟨_,(Heap.Ns.new h (.type "dict")).keeps (pushCells_keeps _ _)⟩,fun x c hx=> ?_,fun x y c hx hy=> ?_⟩,fun a ha=> ?_,fun x hx=> ?_,fun x hx=>lookF x (mem_of_lookup hx)⟩
 ·refine rwl (kind _) (rwl hx ?_);rfl
 ·refine ⟨by refine rwl (kind _) (rwl hx ?_);rfl,?_⟩
  refine ea11 (cellsFrom_has scope.names (h.objs.size+1) x (mem_of_lookup hx)) fun c hc=> ?_
  exact ⟨c,by refine rwl (look _) (rwl hc ?_);rfl⟩
 ·refine ⟨?_,?_⟩
  ·refine rwl (kind _) (rwl hx ?_)
   by_cases q:(NameKind.free==NameKind.free&&env.scope.kind == .function&&env.kindOf x==some .cell)=true
   ·right;simp only [Option.map_some,q,if_true]
   ·left;simp only [Option.map_some,q,if_false,Bool.false_eq_true]
  ·refine rwl (lookF x (mem_of_lookup hx)) ?_;exact hfree x (mem_of_lookup hx)
 ·refine rwl (kind _) (rwl hx ?_);rfl
 ·rcases lookC x c hx with ⟨hm,_⟩|⟨_,hc⟩
  ·exact ⟨_,(ck.empty x c hm).1⟩
  ·refine ea11 (fr x c hc) fun v hv=> ?_
   exact ⟨v,hv.keeps fun b o e=>pushCells_keeps _ _ b o (Heap.get?_push_of_some _ e)⟩
 ·rcases lookC x c hx with ⟨hm,hc⟩|⟨_,hc⟩<;>rcases lookC y c hy with ⟨hm',hc'⟩|⟨_,hc'⟩
  ·exact name_of_addr ck.apart hm hm'
  ·refine ea11 (fr y c hc') fun v hv=> ?_;exact absurd hv.lt (Nat.not_lt.mpr (Nat.le_of_succ_le hc))
  ·refine ea11 (fr x c hc) fun v hv=> ?_;exact absurd hv.lt (Nat.not_lt.mpr (Nat.le_of_succ_le hc'))
  ·exact ap x y c hc hc'
 ·rcases ha with rfl|⟨x,hx⟩
  ·left;exact Nat.le_refl _
  ·rcases lookC x a hx with ⟨_,hc⟩|⟨_,hc⟩
   ·left;exact Nat.le_of_succ_le hc
   ·right;exact ⟨x,hc⟩
 ·unfold slotOf
  rcases hx with hx|hx
  ·refine rwl hx ?_;exact Nat.le_refl _
  ·refine rwl hx ?_
   refine ea11 (cellsFrom_has scope.names (h.objs.size+1) x (mem_of_lookup hx)) fun c hc=> ?_
   have:=(ck.empty x c (mem_of_lookup hc)).2
   have e:(compEnv' env scope h.objs.size).cells.lookup x=some c:=by refine rwl (look _) (rwl hc ?_);rfl
   simp only [e,Option.getD_some]
   exact Nat.le_of_succ_le this
noncomputable def turnT (c:Code) (p:Pos) (target:Expr) (ifs:List Expr) (elt:Expr) (it acc:Value) (env:Env):Sem PySem.Fin:=do
 standAt p
 match <- pyNext it with
 | none=>pure (.done .next)
 | some v=>
  letOwnedTupleGo target it v
  assign target env v
  let mut ok:=true
  for c in ifs do
   if ok then ok <- isTrue c env (eval c env)
  if ok then
   (do let _ <- call (.builtin "list.append") [acc,<- eval elt env])
  again c
theorem turn1 (elt target iter:Expr) (ifs:List Expr) (scope:Scope) (pos:Pos) (it acc:Value) (env:Env) :
  compTurn (.ListComp elt [⟨target,iter,ifs,0⟩] scope pos) 0 it acc env=turnT (.compLoop (.ListComp elt [⟨target,iter,ifs,0⟩] scope pos) 0 it acc env) iter.pos target ifs elt it acc env:=by rfl
theorem turn2 (elt t1 i1 t2 i2:Expr) (ifs:List Expr) (scope:Scope) (pos:Pos) (it acc:Value) (env:Env) :
  compTurn (.ListComp elt [⟨t1,i1,[],0⟩,⟨t2,i2,ifs,0⟩] scope pos) 1 it acc env=turnT (.compLoop (.ListComp elt [⟨t1,i1,[],0⟩,⟨t2,i2,ifs,0⟩] scope pos) 1 it acc env) i2.pos t2 ifs elt it acc env:=by rfl
section
variable {prog:Program} {w:World} {A:Around} {R:Result->Shared->Prop} {s:Shared}
theorem loop_any {e:Expr} {dep:Nat} {it acc:Value} {env:Env} {p:Pos} {target elt:Expr} {ifs:List Expr} (I:Nat->Shared->Prop) (hf:(Code.compLoop e dep it acc env).isFrame=false) (hq:(Code.compLoop e dep it acc env).quiet=true) (hw:(Code.compLoop e dep it acc env).weight=0) (hcu:(Code.compLoop e dep it acc env).cUnits=0)
  (ht:compTurn e dep it acc env=turnT (.compLoop e dep it acc env) p target ifs elt it acc env)
  (turn : ∀ n s,I n s->wpAny (model prog w) A (pyNext it) (fun r s₁=>match r with
   | none=>R (.ok .next) s₁
   | some v=>wpAny (model prog w) A (letOwnedTupleGo target it v) (fun Z s₁'=>wpAny (model prog w) A (assign target env v) (fun Z s₂=>
     wpAny (model prog w) A (forIn ifs true fun c r=>if r=true then do let ok <- isTrue c env (eval c env);pure (ForInStep.yield ok) else pure (ForInStep.yield r)) (fun ok s₃=>
      if ok=true then wpAny (model prog w) A (eval elt env) (fun x s₄=>
       wpAny (model prog w) A (call (.builtin "list.append") [acc,x]) (fun Z s₅=> ∃ m,m<n/\I m s₅) (notedBy (model prog w) A env fun e s'=>R (.error e) s') s₄) (notedBy (model prog w) A env fun e s'=>R (.error e) s') s₃
      else ∃ m,m<n/\I m s₃) (notedBy (model prog w) A env fun e s'=>R (.error e) s') s₂) (notedBy (model prog w) A env fun e s'=>R (.error e) s') s₁') (notedBy (model prog w) A env fun e s'=>R (.error e) s') s₁) (notedBy (model prog w) A env fun e s'=>R (.error e) s') s)
  (n:Nat) (h:I n s):codeAny (model prog w) A (.compLoop e dep it acc env) R s:=by
 refine codeAny_loop hq I (fun n s hI=> ?_) n h
 refine rwl (Around.under_of_weight hw hcu) ?_
 show wpAny _ A (if (Code.compLoop e dep it acc env).isFrame=true then _ else (compTurn e dep it acc env).onRaise (fun x=>do noteFrame x env;theTreesLotGoes x)) _ _ s
 refine rwl hf ?_
 refine wpAny_noted ?_
 refine rwl ht ?_
 refine wpAny_bind (wpAny_standAt (wpAny_bind (wpAny_mono (turn n s hI) (fun r s₁ h₁=> ?_) fun Z Z h'=>h')))
 rcases r with _|v
 ·exact wpAny_pure h₁
 ·refine wpAny_bind (wpAny_mono h₁ (fun Z s₁' h₁'=> ?_) fun Z Z h'=>h')
  refine wpAny_bind (wpAny_mono h₁' (fun Z s₂ h₂=>wpAny_bind (wpAny_mono h₂ (fun ok s₃ h₃=> ?_) fun Z Z h'=>h')) fun Z Z h'=>h')
  rcases ok with _|_
  ·exact wpAny_pure ⟨rfl,h₃⟩
  ·exact wpAny_bind (wpAny_bind (wpAny_mono h₃ (fun x s₄ h₄=>wpAny_bind (wpAny_mono h₄ (fun Z s₅ h₅=>wpAny_pure (wpAny_pure ⟨rfl,h₅⟩)) fun Z Z h'=>h')) fun Z Z h'=>h'))
end
noncomputable def Bd.noO:Bd->Bd
 | .o _=> .un
 | b=>b
theorem lk_noOwn : ∀ (ρ:Loc) (x:Str),lk (noOwn ρ) x=(lk ρ x).noO
 | [],x=>rfl
 | (k,b)::r,x=>by
  have ih:=lk_noOwn r x
  rcases b with _|d|ds|u
  ·simp only [noOwn,lk];split<;>first|rfl|exact ih
  ·simp only [noOwn,lk];split<;>first|rfl|exact ih
  ·simp only [noOwn,lk];split<;>first|rfl|exact ih
  ·simp only [noOwn,lk];split<;>first|rfl|exact ih
theorem lk_hide (xs:List Str) (ρ:Loc) (x:Str):lk (hide xs ρ) x=if x∈xs then .un else (lk ρ x).noO:=by
 have key : ∀ (xs:List Str) (ρ:Loc),lk (xs.foldl (fun ρ x=>upd ρ x .un) ρ) x=if x∈xs then .un else lk ρ x:=by
  intro xs
  induction xs with
  | nil=>intro ρ;simp
  | cons y r ih=>
   intro ρ
   refine rwl List.foldl_cons (rwl (ih _) (rwl (lk_upd _ _ _ _) ?_))
   by_cases hr:x∈r
   ·simp [hr]
   ·by_cases hy:(y==x)=true
    ·have:=beq_iff_eq.mp hy;subst this;simp [hr]
    ·have : ¬ x=y:=fun e=>hy (by refine rwl e ?_;exact beq_self_eq_true _)
     simp [hr,hy,this]
 unfold hide
 exact rwl (key _ _) (rwl (lk_noOwn _ _) rfl)
theorem hide_no (xs:List Str) (ρ:Loc) (x:Str) (ds:List D):lk (hide xs ρ) x ≠ .o ds:=by
 refine rwl (lk_hide _ _ _) ?_
 split
 ·intro h;exact nomatch h
 ·intro h;rcases q:lk ρ x with _|_|_|_<;>rw [q] at h<;>exact nomatch h
set_option tactic.hygienic true in
theorem bind_lk {tg:Tg} {d:D} {ρ ρ':Loc} (h:bindT tg d ρ=some ρ') {x:Str} (hx:x∉tgNames tg):lk ρ' x=lk ρ x:=by
 rcases tg with y|xs
 ·simp only [bindT,Option.some.injEq] at h;subst h
  rw [lk_upd,if_neg (fun e=>hx (by refine lwr (beq_iff_eq.mp e) ?_;simp [tgNames]))]
 ·simp only [bindT] at h
  split at h
  ·split at h
   ·simp only [Option.some.injEq] at h;subst h
    rename_i ds _ _
    have key : ∀ (ps:List (Str×D)) (ρ:Loc),(∀ p∈ps,p.1≠x)->lk (ps.foldl (fun ρ p=>upd ρ p.1 (.d p.2)) ρ) x=lk ρ x:=by
     intro ps
     induction ps with
     | nil=>intro ρ Z;rfl
     | cons p ps ih=>
      intro ρ hp
      exact rwl List.foldl_cons (rwl (ih _ fun q hq=>hp q (List.mem_cons_of_mem _ hq)) (rwl (lk_upd _ _ _ _) (rwl (if_neg (fun e=>hp p List.mem_cons_self (beq_iff_eq.mp e))) rfl)))
    refine key _ _ fun p hp e=>hx ?_
    refine lwr e ?_
    exact (List.of_mem_zip hp).1
   ·exact nnE h
  ·exact nnE h
theorem bind_v {tg:Tg} {d:D} {ρ ρ':Loc} (h:bindT tg d ρ=some ρ') {x:Str} {u:Value} (e:lk ρ' x = .v u):lk ρ x = .v u:=by
 rcases tg with y|xs
 ·simp only [bindT,Option.some.injEq] at h;subst h
  rw [lk_upd] at e
  split at e
  ·exact nomatch e
  ·exact e
 ·simp only [bindT] at h
  split at h
  ·split at h
   ·simp only [Option.some.injEq] at h;subst h
    have key : ∀ (ps:List (Str×D)) (ρ:Loc),lk (ps.foldl (fun ρ p=>upd ρ p.1 (.d p.2)) ρ) x = .v u->lk ρ x = .v u:=by
     intro ps
     induction ps with
     | nil=>intro ρ e;exact e
     | cons p ps ih=>
      intro ρ e
      have:=ih _ e
      rw [lk_upd] at this
      split at this
      ·exact nomatch this
      ·exact this
    exact key _ _ e
   ·exact nnE h
  ·exact nnE h
theorem hide_v {xs:List Str} {ρ:Loc} {x:Str} {u:Value} (e:lk (hide xs ρ) x = .v u):lk ρ x = .v u:=by
 rw [lk_hide] at e
 split at e
 ·exact nomatch e
 ·rcases q:lk ρ x with _|_|_|_<;>rw [q] at e<;>cases e;rfl
theorem Bears.weaken {W:List Addr} {env:Env} {h:Heap} {sc:Sc} {ρ ρ':Loc} (b:Bears W env h sc ρ') (hd : ∀ x,lk ρ x = .un\/lk ρ x=lk ρ' x):Bears W env h sc ρ:=by
 refine ⟨fun x d hx e=> ?_,fun x ds hx e=> ?_,fun x u hx e=> ?_⟩
 ·rcases hd x with q|q
  ·exact nomatch q.symm.trans e
  ·rw [q] at e;exact b.d x d hx e
 ·rcases hd x with q|q
  ·exact nomatch q.symm.trans e
  ·rw [q] at e;exact b.o x ds hx e
 ·rcases hd x with q|q
  ·exact nomatch q.symm.trans e
  ·rw [q] at e;exact b.v x u hx e
section
variable {prog:Program} {w:World} {T:Heap->Prop} {V:Value->Prop} {F:Str->Option Addr} {Φ B:Fns} {k:Nat}
structure LS (T:Heap->Prop) (V:Value->Prop) (W:List Addr) (cenv:Env) (names:Sc) (ρ₀:Loc) (D₀:Addr) (P₀:Addr->Prop) (s₁:Shared) (out:List D) (s:Shared):Prop where
 chg:Chg P₀ (fun Z=>False) s₁ s
 fr:FrameS cenv s.heap
 st:St T V W cenv names ρ₀ s
 acc : ∃ ys n,s.heap.get? D₀=some (lObj ys n)/\RepL W s.heap ys out
theorem LS.step {W:List Addr} {cenv:Env} {names:Sc} {ρ₀:Loc} {D₀:Addr} {P₀ Q:Addr->Prop} {s₁ s s':Shared} {out:List D} (C:TopS T F) (l:LS T V W cenv names ρ₀ D₀ P₀ s₁ out s) (hD:D₀∈W)
  (c:Chg Q (fun Z=>False) s s') (hQ : ∀ a,Q a->P₀ a) (hb:Blind W s.heap Q) (hs : ∀ a,Q a -> ¬ Slots cenv a) (hW : ∀ a∈W,¬ Q a) (hT:T s'.heap):LS T V W cenv names ρ₀ D₀ P₀ s₁ out s':=by
 refine ea22 l.acc fun ys n ha hr=> ?_
 have ks : ∀ b o,Slots cenv b->s.heap.get? b=some o->s'.heap.get? b=some o:=fun b o hb' e=>c.keep b o (fun q=>hs b q hb') e
 have kh : ∀ x v,Holds cenv s.heap x v->Holds cenv s'.heap x v:=fun x v z=>by
  rcases z with ⟨a,m,hn,hm⟩|⟨a,cc,hc,o,ho,hd⟩
  ·exact .inl ⟨a,m,hn.at' fun o e=>ks _ o (.inl rfl) e,hm⟩
  ·exact .inr ⟨a,cc,hc,o,ks _ o (.inr ⟨x,hc⟩) ho,hd⟩
 refine ⟨l.chg.trans (c.mono hQ fun Z h=>h),l.fr.keeps ks,⟨l.st.es,l.st.sh.chg c hW,hT,⟨fun x d hx e=> ?_,fun x ds hx e=> ?_,fun x u hx e=>kh x u (l.st.br.v x u hx e)⟩,l.fr.keeps ks,l.st.tv⟩,ys,n,c.keep _ _ (hW _ hD) ha,hr.chg c hb⟩
 ·refine ea12 (l.st.br.d x d hx e) fun v h1 h2=> ?_
  exact ⟨v,kh x v h1,h2.chg c hb⟩
 ·refine ea34 (l.st.br.o x ds hx e) fun a vs m h1 h2 h3 h4=> ?_
  exact ⟨a,vs,m,kh x _ h1,h2,c.keep _ _ (hW a h2) h3,h4.chg c hb⟩
noncomputable def eltF (Φ B:Fns) (tg:Tg) (ρ₀:Loc) (cs:MEs) (elt:ME) (x:D):Option (Option D):=
 (bindT tg x ρ₀).bind fun ρ'=>(evA Φ B cs ρ').bind fun ok=>if ok then (ev Φ B elt ρ').map some else some none
inductive CI (T:Heap->Prop) (V:Value->Prop) (W:List Addr) (cenv:Env) (names:Sc) (ρ₀:Loc) (D₀:Addr) (P₀:Addr->Prop) (s₁:Shared) (St':Nat->Shared->Prop) (N:Nat) (run:Nat->List D->Prop):Nat->Shared->Prop
 | mk {n s'} (i out') (hn:n=N+1-i) (hi:i<=N) (l:LS T V W cenv names ρ₀ D₀ P₀ s₁ out' s') (st:St' i s') (hr:run i out'):CI T V W cenv names ρ₀ D₀ P₀ s₁ St' N run n s'
set_option tactic.hygienic true in
theorem run_cons {tg:Tg} {ρ₀:Loc} {cs:MEs} {elt:ME} {d:D} {ds rest:List D} (h:compRun (eltF Φ B tg ρ₀ cs elt) (d::ds)=some rest) : ∃ ρ' ok,bindT tg d ρ₀=some ρ'/\evA Φ B cs ρ'=some ok /\
  (if ok=true then ∃ y r',ev Φ B elt ρ'=some y/\compRun (eltF Φ B tg ρ₀ cs elt) ds=some r'/\y::r'=rest else compRun (eltF Φ B tg ρ₀ cs elt) ds=some rest):=by
 unfold compRun at h
 split at h
 ·rename_i y hy
  refine bindE hy fun ρ' hb hy=>bindE hy fun ok hok hy=>⟨ρ',ok,hb,hok,?_⟩
  refine ea12 (Option.map_eq_some_iff.mp h) fun r' hr Z2=> ?_;subst Z2
  rcases ok with _|_
  ·exact nomatch hy
  ·refine ea12 (Option.map_eq_some_iff.mp hy) fun y' hv q=> ?_;cases q;exact ⟨y,r',hv,hr,rfl⟩
 ·rename_i hy
  refine bindE hy fun ρ' hb hy=>bindE hy fun ok hok hy=>⟨ρ',ok,hb,hok,?_⟩
  rcases ok with _|_
  ·exact h
  ·refine ea12 (Option.map_eq_some_iff.mp hy) fun y' Z q=> ?_;exact nomatch q
 ·exact nnE h
theorem LS.push {W:List Addr} {cenv:Env} {names:Sc} {ρ₀:Loc} {D₀:Addr} {P₀:Addr->Prop} {s₁ s:Shared} {out:List D} (l:LS T V W cenv names ρ₀ D₀ P₀ s₁ out s) (hD:D₀∈W) (hPD:P₀ D₀) (Tof : ∀ s',Chg P₀ (fun Z=>False) s₁ s'->T s'.heap) (hno : ∀ y ds,lk ρ₀ y ≠ .o ds)
  {ys:List Value} {m m':Nat} {u:Value} {y:D} (acc:s.heap.get? D₀=some (lObj ys m)) (hys:RepL W s.heap ys out) (ru:Rep W s.heap u y) {h':Heap} (hs':Heap.SameBut D₀ s.heap h') (hp:h'.get? D₀=some (lObj (ys++[u]) m')):LS T V W cenv names ρ₀ D₀ P₀ s₁ (out++[y]) { s with heap:=h' }:=by
 have c:Chg (·= D₀) (fun Z=>False) s { s with heap:=h' }:=Chg.one s.toks hs'
 have bl:Blind W s.heap (·= D₀):=fun a ha=> .inl (ha▸hD)
 have nD : ¬ Slots cenv D₀:=l.fr.shut l.st.sh D₀ hD
 have sl : ∀ b o,Slots cenv b->s.heap.get? b=some o->h'.get? b=some o:=fun b o hb e=>c.keep b o (fun q=>nD (q▸hb)) e
 have kh : ∀ x v,Holds cenv s.heap x v->Holds cenv h' x v:=fun x v z=>by
  rcases z with ⟨a,mm,hn,hm⟩|⟨a,cc,hc,o,ho,hd⟩
  ·exact .inl ⟨a,mm,hn.at' fun o e=>sl _ o (.inl rfl) e,hm⟩
  ·exact .inr ⟨a,cc,hc,o,sl _ o (.inr ⟨x,hc⟩) ho,hd⟩
 have cc:=l.chg.trans (c.mono (P':=P₀) (G':=fun Z=>False) (fun a ha=>ha▸hPD) fun Z h=>h)
 refine ⟨cc,l.fr.keeps sl,⟨l.st.es,fun a ha=> ?_,Tof _ cc,⟨fun x d hx e=> ?_,fun x ds hx e=>absurd e (hno x ds),fun x u hx e=>kh x u (l.st.br.v x u hx e)⟩,l.fr.keeps sl,l.st.tv⟩,_,_,hp,(hys.chg c bl).append (.cons (ru.chg c bl) .nil)⟩
 ·by_cases q:a=D₀
  ·subst q;exact ⟨_,_,hp⟩
  ·refine ea21 (l.st.sh a ha) fun vs n e=> ?_;exact ⟨vs,n,c.keep a _ q e⟩
 ·refine ea12 (l.st.br.d x d hx e) fun v h1 h2=> ?_
  exact ⟨v,kh x v h1,h2.chg c bl⟩
theorem comp_loop (C:Ctx prog w T V F Φ B k) {A:Around} (rm:Room A k) {e:Expr} {dep:Nat} {I D₀:Addr} {cenv:Env} {p:Pos} {target x:Expr} {ifs:List Expr} {W:List Addr} {ds:List D} {own:Addr->Prop} {St':Nat->Shared->Prop}
  (hf:(Code.compLoop e dep (.ref I) (.ref D₀) cenv).isFrame=false) (hq:(Code.compLoop e dep (.ref I) (.ref D₀) cenv).quiet=true) (hw:(Code.compLoop e dep (.ref I) (.ref D₀) cenv).weight=0) (hcu:(Code.compLoop e dep (.ref I) (.ref D₀) cenv).cUnits=0)
  (ht:compTurn e dep (.ref I) (.ref D₀) cenv=turnT (.compLoop e dep (.ref I) (.ref D₀) cenv) p target ifs x (.ref I) (.ref D₀) cenv)
  (it:It prog w A T I W ds own (fun Z=>False) St') {names:Sc} {ρ₀:Loc} {tg:Tg} {cs:MEs} {elt:ME} (hs:SE prog w T V Φ B k elt) (ha:SA prog w T V Φ B k cs)
  (htg:tgOk tg target=true) (hme:mt elt names x=true) (hmc:mtL cs names ifs=true) (hx : ∀ y∈tgNames tg,names.lookup y=some .local\/names.lookup y=some .cell) (hun : ∀ y∈tgNames tg,lk ρ₀ y = .un) (hno : ∀ y ds,lk ρ₀ y ≠ .o ds)
  {P₀:Addr->Prop} {s₁ s:Shared} (hD:D₀∈W) (hPD:P₀ D₀) (hPo : ∀ a,own a->P₀ a) (hPs : ∀ y,(names.lookup y=some .local\/names.lookup y=some .cell)->P₀ (slotOf cenv names y)) (hos : ∀ a,own a -> ¬ Slots cenv a) (hoW : ∀ a∈W,¬ own a)
  (Tof : ∀ s',Chg P₀ (fun Z=>False) s₁ s'->T s'.heap) {out rest:List D} (hsz:out.length+ds.length<=2000000)
  (l:LS T V W cenv names ρ₀ D₀ P₀ s₁ out s) (h0:St' 0 s) (hr:compRun (eltF Φ B tg ρ₀ cs elt) ds=some rest) {R:Result->Shared->Prop}
  (fin : ∀ s',LS T V W cenv names ρ₀ D₀ P₀ s₁ (out++rest) s'->R (.ok .next) s'):codeAny (model prog w) A (.compLoop e dep (.ref I) (.ref D₀) cenv) R s:=by
 refine loop_any (CI T V W cenv names ρ₀ D₀ P₀ s₁ St' ds.length fun i out'=> ∃ rest',compRun (eltF Φ B tg ρ₀ cs elt) (ds.drop i)=some rest'/\out'++rest'=out++rest/\out'.length<=out.length+i) hf hq hw hcu ht ?_ (ds.length+1)
  ⟨0,out,rfl,Nat.zero_le _,l,h0,rest,hr,rfl,Nat.le_refl _⟩
 intro n s' hci
 obtain ⟨i,out',rfl,hi,l',hst,rest',hrun,hout,hlen⟩:=hci
 by_cases hlt:i<ds.length
 ·have hget:ds[i]? = some ds[i]:=List.getElem?_eq_getElem hlt
  refine it.item i s' ds[i] _ _ hst hget fun v s₂ hst₂ c₂ rv=> ?_
  have bl₂:Blind W s'.heap own:=fun a ha=> .inr (it.blind i s' hst a ha)
  have l₂:=l'.step C.top hD c₂ hPo bl₂ hos hoW (Tof _ (l'.chg.trans (c₂.mono hPo fun Z h=>h)))
  refine it.letgo (i+1) s₂ target v _ _ hst₂ ?_
  rw [List.drop_eq_getElem_cons hlt] at hrun
  refine ea23 (run_cons hrun) fun ρ' ok hb hok hrun=> ?_
  have weak : ∀ y,lk ρ₀ y = .un\/lk ρ₀ y=lk ρ' y:=fun y=>by
   by_cases hy:y∈tgNames tg
   ·exact .inl (hun y hy)
   ·exact .inr (bind_lk hb hy).symm
  refine assign_tg rm.hh l₂.st.es l₂.fr l₂.st.br htg hx (l₂.fr.shut l₂.st.sh) (rv l₂.st.sh) hb fun s₃ fr₃ b₃ c₃=> ?_
  have bl₃:Blind W s₂.heap (fun a=> ∃ y∈tgNames tg,a=slotOf cenv names y):=fun a Z9=>ea12 Z9 fun y hy e=>l₂.fr.blind a (e▸slot_in l₂.st.es (hx y hy))
  have c₃':Chg P₀ (fun Z=>False) s₂ s₃:=c₃.mono (fun a Z9=>ea12 Z9 fun y hy e=>e▸hPs y (hx y hy)) fun Z q=>q
  have nsl : ∀ a,(∃ y∈tgNames tg,a=slotOf cenv names y)->Slots cenv a:=fun a Z9=>ea12 Z9 fun y hy e=>e▸slot_in l₂.st.es (hx y hy)
  have T₃:=Tof s₃ (l₂.chg.trans c₃')
  have hW₃:=l₂.fr.shut l₂.st.sh
  have st₃:St T V W cenv names ρ' s₃:=⟨l₂.st.es,l₂.st.sh.chg c₃ fun a ha q=>hW₃ a ha (nsl a q),T₃,b₃,fr₃,fun x u e=>l₂.st.tv x u (bind_v hb e)⟩
  have hst₃:St' (i+1) s₃:=it.frame _ _ _ hst₂ T₃ (fun b o hb e=>c₃.keep b o (fun q=>by
   rcases hb with hb|⟨hb,hq⟩
   ·exact hos b hb (nsl b q)
   ·rcases bl₃ b q with z|z
    ·exact hb z
    ·exact z o e hq) e) fun Z Z h=>h.elim
  refine ea22 l₂.acc fun ys m hacc hys=> ?_
  refine ha names ifs A cenv W ρ' s₃ ok _ _ hmc rm st₃ hok fun s₄ x₄=> ?_
  have st₄:=st₃.ext C.top x₄
  have hst₄:St' (i+1) s₄:=it.frame _ _ _ hst₃ st₄.tp (fun b o Z e=>x₄.keep b o e) fun Z Z h=>h.elim
  have acc₄:s₄.heap.get? D₀=some (lObj ys m):=x₄.keep _ _ (c₃.keep _ _ (fun q=>hW₃ _ hD (nsl _ q)) hacc)
  have ys₄:RepL W s₄.heap ys out':=(hys.chg c₃ bl₃).ext x₄
  have back : ∀ s₅,Ext s₄ s₅->LS T V W cenv names ρ₀ D₀ P₀ s₁ out' s₅:=fun s₅ x₅=>
   ⟨l₂.chg.trans (c₃'.trans ((x₄.trans x₅).chg)),fr₃.ext (x₄.trans x₅),⟨l₂.st.es,(st₄.ext C.top x₅).sh,(st₄.ext C.top x₅).tp,((b₃.keeps (x₄.trans x₅).keep).weaken weak),fr₃.ext (x₄.trans x₅),l₂.st.tv⟩,ys,m,x₅.keep _ _ acc₄,ys₄.ext x₅⟩
  rcases ok with _|_
  ·exact ⟨ds.length+1-(i+1),by exact Nat.sub_lt_sub_left (Nat.lt_succ_of_le hi) (Nat.lt_add_one _),i+1,out',rfl,hlt,back s₄ (Ext.refl s₄),hst₄,rest',hrun,hout,by exact Nat.le_succ_of_le hlen⟩
  ·refine ea23 hrun fun y r' hv hr' hrr=> ?_
   refine hs names x A cenv W ρ' s₄ y _ _ hme rm st₄ hv fun u s₅ x₅ ru=> ?_
   have acc₅:=x₅.keep _ _ acc₄
   have ys₅:=ys₄.ext x₅
   refine wpAny_list_append_plain ⟨m,acc₅⟩ (fun h' hp hs'=> ?_) (by simp;refine rwl ys₅.length (rwl sizeLine_eq ?_);exact H400 hlen hi hsz)
   refine ea11 hp fun m' hp=> ?_
   rw [show ys.toArray.push u=(ys++[u]).toArray by simp] at hp
   have l₆:=(back s₅ x₅).push hD hPD Tof hno acc₅ ys₅ ru hs' hp
   refine ⟨ds.length+1-(i+1),by exact H401 hlt,i+1,out'++[y],rfl,hlt,l₆,?_,r',hr',by refine rwl (List.append_assoc _ _ _) (lwr hout (lwr hrr ?_));rfl,by refine rwl List.length_append ?_;exact Nat.succ_le_succ hlen⟩
   have c₆:Chg (·= D₀) (fun Z=>False) s₅ { s₅ with heap:=h' }:=Chg.one s₅.toks hs'
   exact it.frame _ _ _ (it.frame _ _ _ hst₄ (st₄.ext C.top x₅).tp (fun b o Z e=>x₅.keep b o e) fun Z Z h=>h.elim) l₆.st.tp (fun b o hb e=>c₆.keep b o (fun q=>hb.elim (fun z=>hoW _ hD (q▸z)) fun z=>z.1 (q▸hD)) e) fun Z Z h=>h.elim
 ·have hi':i=ds.length:=by exact Nat.le_antisymm hi (Nat.le_of_not_lt hlt)
  subst hi'
  refine it.done s' _ _ hst fun s₂ c₂=> ?_
  have bl₂:Blind W s'.heap own:=fun a ha=> .inr (it.blind _ s' hst a ha)
  have l₂:=l'.step C.top hD c₂ hPo bl₂ hos hoW (Tof _ (l'.chg.trans (c₂.mono hPo fun Z h=>h)))
  rw [List.drop_length] at hrun
  obtain rfl:=Option.some.inj hrun
  rw [List.append_nil] at hout
  exact fin s₂ (hout▸l₂)
end
theorem Ext.none {s s':Shared} (x:Ext s s') {a:Addr} (h:s'.heap.get? a=none):s.heap.get? a=none:=by
 rcases e:s.heap.get? a with _|o
 ·rfl
 ·rw [x.keep _ _ e] at h;exact nomatch h
section
variable {prog:Program} {w:World} {T:Heap->Prop} {V:Value->Prop} {F:Str->Option Addr} {Φ B:Fns} {k:Nat}
noncomputable def srcD (r:Bool) (src:D):Option (List D):=if r then (match src with | .int n=>if 0<=n/\n<=1000 then some (rngD n) else none|_=>none) else items? src
theorem comp_src (C:Ctx prog w T V F Φ B k) {it:ME} (hi:SE prog w T V Φ B k it) {r:Bool} {sc:Sc} {i:Expr} {A:Around} {env:Env} {W:List Addr} {ρ:Loc} {s:Shared} {src:D} {xs:List D} {Q:Value->Shared->Prop} {E:Value->Shared->Prop}
  (hm:(if r then onRng sc i (mt it sc) else mt it sc i)=true)
  (rm:Room A k) (st:St T V W env sc ρ s) (he:ev Φ B it ρ=some src) (hx:srcD r src=some xs)
  (h : ∀ I s' (St:List Addr->Nat->Shared->Prop),Ext s s'->s.heap.get? I=none->(∃ o,s'.heap.get? I=some o)->(∀ T k,ItF prog w T k I xs (·= I) (fun Z=>False) St) ->
   (∀ W' s'',(∀ a∈W',a∈W\/s'.heap.get? a=none)->Ext s' s''->St W' 0 s'')->Q (.ref I) s') :
  wpAny (model prog w) A (eval i env) (fun x s₁=>wpAny (model prog w) A (pyIter x) Q E s₁) E s:=by
 rcases r with _|_
 ·refine hi sc i A env W ρ s src _ E hm rm st he fun v s₁ x₁ rv=> ?_
  refine iter_seq rv hx fun I s₂ St x₂ hI hlt hit hst=> ?_
  exact h I s₂ St (x₁.trans x₂) (x₁.none hI) hlt hit hst
 ·apply onCall_el (show onRng sc i (mt it sc)=true from hm);intro c zs ks Z hm
  apply onName_el hm;clear hm;intro g Z hm
  apply on1_el hm;clear hm;intro y hm
  refine and5 hm fun hk hn hg hmy hst=> ?_
  clear hm;obtain rfl:=nilB hk;obtain rfl:=eqB hn;have hg:=eqB hg
  rcases src with _|_|n|_|_|_|_
  case int=>
   refine ea02 (iteE hx) fun hn Z1=> ?_;subst Z1
   refine wpAny_Call_Name_kw (name_glob st.es hg (by rfl) (C.top.blt _ st.tp "range" (.type "range") (by rfl)) ?_)
   refine callWith_of (P:=fun Z=>True) (by refine rwl (starEach_cons hst) ?_;rfl) (fun h' Z=>⟨.machine,.inr (.inl rfl),keeper_mach fun a q=>nomatch q⟩) ?_
   refine rwl (starEach_cons hst) ?_
   refine evalArgs_plain (PySem.Calls.spliced_cons (hi sc y A env W ρ s _ _ E hmy rm st he fun v s₁ x₁ r₁=>PySem.Calls.spliced_nil ⟨trivial,?_⟩))
   refine iter_range r₁ hn.1 hn.2 fun I s₂ St x₂ hI hlt hit hst=> ?_
   exact h I s₂ St (x₁.trans x₂) (x₁.none hI) hlt hit fun W' s'' Z x=>hst W' s'' x
  all_goals exact nnE hx
theorem comp_bears {W W':List Addr} {env cenv:Env} {sc names:Sc} {tgs:List Str} {ρ:Loc} {h h':Heap} (es:EnvS env sc) (ces:EnvS cenv names) (ok:scOk sc tgs names=true)
  (hf : ∀ x,names.lookup x=some .free->cenv.cells.lookup x=env.cells.lookup x)
  (b:Bears W env h sc ρ) (hk : ∀ b o,h.get? b=some o->h'.get? b=some o) (hW : ∀ v d,Rep W h v d->Rep W' h' v d):Bears W' cenv h' names (hide tgs ρ):=by
 unfold scOk at ok
 simp only [Bool.and_eq_true,List.all_eq_true,decide_eq_true_eq] at ok
 obtain ⟨⟨⟨k1,k2⟩,k3⟩,k4⟩:=ok
 have key : ∀ x,okN names x=true->x∉tgs->okN sc x=true /\ ∀ v,Holds env h x v->Holds cenv h' x v:=fun x hx hxt=>by
  unfold okN at hx
  simp only [Bool.and_eq_true,Bool.not_eq_true'] at hx
  obtain ⟨⟨⟨h1,h2⟩,h3⟩,h4⟩:=hx
  have hfree:names.lookup x=some .free:=by
   split at h1
   ·rename_i q
    have t:=k1 _ (mem_of_lookup q)
    simp only [Bool.or_eq_true] at t
    rcases t with t|t
    ·exact nomatch t.symm.trans h4
    ·exact absurd (List.contains_iff_mem.mp t) hxt
   ·rename_i q
    have t:=k1 _ (mem_of_lookup q)
    exact absurd (List.contains_iff_mem.mp t) hxt
   ·assumption
   ·exact nomatch h1
  have q:=k1 _ (mem_of_lookup hfree)
  simp only [Bool.and_eq_true] at q
  have hk2:(sc.lookup x=some .cell\/sc.lookup x=some .free):=by
   have q1:=q.1
   split at q1
   ·exact .inl (by assumption)
   ·exact .inr (by assumption)
   ·exact nomatch q1
  have hokx:okN sc x=true:=by
   unfold okN
   rcases hk2 with z|z<;>simp [z,h2,h3,h4]
  refine ⟨hokx,fun v hv=> .inr ⟨(ces.fre x hfree).1.symm,?_⟩⟩
  refine rwl (hf x hfree) ?_
  have kk:env.kindOf x≠some .local:=by
   rcases hk2 with z|z
   ·refine rwl ((es.cel x z).1) ?_;intro q;exact nomatch q
   ·rcases (es.fre x z).1 with z|z<;>refine rwl z ?_<;>intro q<;>exact nomatch q
  rcases hv with ⟨a,_⟩|⟨_,c,hc,hcv⟩
  ·exact absurd a kk
  ·exact ⟨c,hc,hcv.keeps hk⟩
 refine ⟨fun x d hx e=> ?_,fun x ds hx e=>absurd e (hide_no _ _ _ _),fun x u hx e=> ?_⟩
 ·rw [lk_hide] at e
  split at e
  ·exact nomatch e
  ·rename_i hxt
   have e':lk ρ x = .d d:=by rcases q:lk ρ x with _|_|_|_<;>rw [q] at e<;>cases e;rfl
   refine ea02 (key x hx hxt) fun hokx kk=> ?_
   refine ea12 (b.d x d hokx e') fun v hv rv=> ?_
   exact ⟨v,kk v hv,hW v d rv⟩
 ·rw [lk_hide] at e
  split at e
  ·exact nomatch e
  ·rename_i hxt
   have e':lk ρ x = .v u:=by rcases q:lk ρ x with _|_|_|_<;>rw [q] at e<;>cases e;rfl
   refine ea02 (key x hx hxt) fun hokx kk=> ?_
   exact kk u (b.v x u hokx e')
theorem scOk_names {sc names:Sc} {tgs:List Str} (ok:scOk sc tgs names=true):(∀ x∈names,x.2 = .local->names.lookup x.1=some .local)/\(∀ y∈tgs,names.lookup y=some .local\/names.lookup y=some .cell):=by
 unfold scOk at ok
 simp only [Bool.and_eq_true,List.all_eq_true,decide_eq_true_eq] at ok
 obtain ⟨⟨⟨k1,k2⟩,k3⟩,k4⟩:=ok
 refine ⟨fun x hx e=>nodup_lookup k2 (by refine lwr e ?_;exact hx),fun y hy=> ?_⟩
 have:=(k3 y hy).1
 split at this
 ·exact .inl (by assumption)
 ·exact .inr (by assumption)
 ·exact nomatch this
theorem scOk_closure {env:Env} {sc:Sc} {scope:Scope} {tgs:List Str} (es:EnvS env sc) (ok:scOk sc tgs scope.names=true):closureFor scope env=pure (clF env scope.names []):=by
 unfold scOk at ok
 simp only [Bool.and_eq_true,List.all_eq_true,decide_eq_true_eq] at ok
 obtain ⟨⟨⟨k1,k2⟩,k3⟩,k4⟩:=ok
 refine closure_is fun n hn=> ?_
 have:=k1 _ hn
 simp only [Bool.and_eq_true] at this
 have q:=this.1
 split at q
 ·exact (es.cel n (by assumption)).2
 ·exact (es.fre n (by assumption)).2
 ·exact nomatch q
theorem folded_no {i:Expr} (h:itOk i=true) (env:Env) (x:Value):foldedSetIterable i env x=pure x:=by
 rcases i with _|_|_|_|_|_|_|_|_|_|_|_|_|_|_|_|_|_|_|_|_|_|_|_|_|_|_<;>first|rfl|exact ff h
structure Laid (T:Heap->Prop) (V:Value->Prop) (W:List Addr) (env cenv:Env) (names:Sc) (ρ₀:Loc) (D₀:Addr) (s₂ s₄:Shared):Prop where
 ext:Ext s₂ s₄
 new:s₂.heap.get? D₀=none
 st:St T V (D₀::W) cenv names ρ₀ s₄
 acc:s₄.heap.get? D₀=some (lObj [] 0)
 loc:s₂.heap.get? cenv.locals=none
 apart:cenv.locals≠D₀
 slots : ∀ y,(names.lookup y=some .local\/names.lookup y=some .cell)->s₂.heap.get? (slotOf cenv names y)=none
 cells : ∀ a,Slots cenv a->s₂.heap.get? a=none \/ ∃ x,env.cells.lookup x=some a
theorem comp_lay (C:Ctx prog w T V F Φ B k) {A:Around} {env:Env} {W:List Addr} {ρ:Loc} {sc:Sc} {tgs:List Str} {scope:Scope} {s₂:Shared} {Q:Unit->Shared->Prop} {E:Value->Shared->Prop} {run:Value->Env->Shared->Prop}
  (st:St T V W env sc ρ s₂) (ok:scOk sc tgs scope.names=true) (hkind:scope.kind = .function)
  (h : ∀ D₀ cenv s₄,Laid T V W env cenv scope.names (hide tgs ρ) D₀ s₂ s₄->run (.ref D₀) cenv s₄) :
  wpAny (model prog w) A (newList []) (fun acc s₃=>wpAny (model prog w) A (newFunctionEnv scope env.globals (clF env scope.names []) [] env.qual none .none (some env)) (fun cenv s₄=>
   run acc { cenv with scope:=relabel scope env } s₄) E s₃) E s₂:=by
 refine wpAny_newList ?_ (Nat.zero_le _)
 refine newEnvC ?_
 have st₃:=st.ext C.top (Ext.push' s₂ { cls:= .type "list", data:= .seq ([]:List Value).toArray })
 have hsz:(s₂.heap.push { cls:= .type "list", data:= .seq ([]:List Value).toArray }).objs.size=s₂.heap.objs.size+1:=Heap.size_push ..
 refine ea05 (comp_frame st₃.es st₃.fr.cells st₃.fr.apart ok hkind) fun c1 c2 c3 c4 c5=> ?_
 have hacc:(s₂.heap.push { cls:= .type "list", data:= .seq ([]:List Value).toArray }).get? s₂.heap.objs.size=some (lObj [] 0):=Heap.get?_push_size _ rfl
 have x₃:Ext s₂ _:=Ext.push' s₂ { cls:= .type "list", data:= .seq ([]:List Value).toArray }
 have x₄:=Ext.push' { s₂ with heap:=s₂.heap.push { cls:= .type "list", data:= .seq ([]:List Value).toArray } } { cls:= .type "dict", data:= .dict #[] }
 have x₅:Ext { s₂ with heap:=(s₂.heap.push { cls:= .type "list", data:= .seq ([]:List Value).toArray }).push { cls:= .type "dict", data:= .dict #[] } } { s₂ with heap:=pushCells ((s₂.heap.push { cls:= .type "list", data:= .seq ([]:List Value).toArray }).push { cls:= .type "dict", data:= .dict #[] }) scope.names }:=
  Ext.heap s₂.toks (pushCells_keeps _ _)
 have x₂₅:=x₃.trans (x₄.trans x₅)
 have fresh : ∀ a,s₂.heap.objs.size<=a->s₂.heap.get? a=none:=fun a ha=>get?_lt ha
 refine h s₂.heap.objs.size (compEnv' env scope (s₂.heap.push { cls:= .type "list", data:= .seq ([]:List Value).toArray }).objs.size) _ ⟨x₂₅,fresh _ (Nat.le_refl _),⟨c1,fun a ha=> ?_,C.top.mono _ _ st.tp x₂₅.keep,?_,c2,fun x u e=>st.tv x u (hide_v e)⟩,(x₄.trans x₅).keep _ _ hacc,?_,?_,fun y hy=> ?_,fun a ha=> ?_⟩
 ·rcases List.mem_cons.mp ha with rfl|ha
  ·exact ⟨_,_,(x₄.trans x₅).keep _ _ hacc⟩
  ·refine ea21 (st.sh a ha) fun vs n e=> ?_;exact ⟨vs,n,x₂₅.keep _ _ e⟩
 ·exact comp_bears st.es c1 ok c5 st.br x₂₅.keep fun v d r=>(r.shut (fresh _ (Nat.le_refl _))).keeps x₂₅.keep
 ·exact fresh _ (by show s₂.heap.objs.size<=(s₂.heap.push _).objs.size;refine rwl hsz ?_;exact Nat.le_succ _)
 ·show (s₂.heap.push _).objs.size≠_;refine rwl hsz ?_;exact Nat.succ_ne_self _
 ·exact fresh _ (Nat.le_trans (by refine rwl hsz ?_;exact Nat.le_succ _) (c4 y hy))
 ·rcases c3 a ha with q|⟨x,hx⟩
  ·exact .inl (fresh _ (Nat.le_trans (by refine rwl hsz ?_;exact Nat.le_succ _) q))
  ·exact .inr ⟨x,hx⟩
structure CompM (elt:ME) (tg:Tg) (r:Bool) (it:ME) (cs:MEs) (sc:Sc) (x t i:Expr) (fs:List Expr) (scope:Scope):Prop where
 g1:tgOk tg t=true
 ok:scOk sc (tgNames tg) scope.names=true
 kd:scope.kind = .function
 i1:itOk i=true
 src:(if r then onRng sc i (mt it sc) else mt it sc i)=true
 mc:mtL cs scope.names fs=true
 me:mt elt scope.names x=true
theorem comp_el {elt:ME} {tg:Tg} {r:Bool} {it:ME} {cs:MEs} {sc:Sc} {e:Expr} {P:Expr->Prop} (h:mt (.comp elt tg r it cs) sc e=true) (k : ∀ x t i fs scope pos,CompM elt tg r it cs sc x t i fs scope->P (.ListComp x [⟨t,i,fs,0⟩] scope pos)):P e:=by
 apply onListComp_el h;clear h;intro x gs scope pos h
 apply on1_el h;clear h;intro g h
 apply onGen_el h;clear h;intro t i fs h
 exact and7 h fun h1 h2 h3 h4 h5 h6 h7=>k x t i fs scope pos ⟨h1,h2,eqB h3,h4,h5,h6,h7⟩
theorem comp_core (C:Ctx prog w T V F Φ B k) {elt it:ME} {cs:MEs} {tg:Tg} {r:Bool} (hi:SE prog w T V Φ B k it) (hs:SE prog w T V Φ B k elt) (ha:SA prog w T V Φ B k cs)
  {sc:Sc} {x t i:Expr} {fs:List Expr} {scope:Scope} {pos p:Pos} {A:Around} {env:Env} {W:List Addr} {ρ:Loc} {s:Shared} {d:D} {use:Option (Value->Sem Unit)} {Q:Value->Shared->Prop} {E:Value->Shared->Prop}
  (hm:CompM elt tg r it cs sc x t i fs scope) (rm:Room A k) (st:St T V W env sc ρ s) (he:ev Φ B (.comp elt tg r it cs) ρ=some d)
  (h : ∀ ds D₀ C₀ s' ys n,d = .list ds->Ext s s'->s.heap.get? D₀=none->s.heap.get? C₀=none->C₀≠D₀->s'.heap.get? D₀=some (lObj ys n)->RepL W s'.heap ys ds->RepL (D₀::W) s'.heap ys ds->(∃ m,s'.heap.Ns C₀ m) ->
   compPost (model prog w) A E use Q (.ref D₀) C₀ (.ok .next) s') :
  wpAny (model prog w) A (comprehension (.ListComp x [⟨t,i,fs,0⟩] scope pos) scope env p (newList []) false (eval i env) use) Q E s:=by
 obtain ⟨htg,hok,hkind,hit,hsrc,hmc,hme⟩:=hm
 refine bindE he fun src hsv he=> ?_
 refine bindE he fun xs hxs he=> ?_
 have hlen:=(iteO he).1;replace he:=(iteO he).2
 refine ea12 (Option.map_eq_some_iff.mp he) fun out hrun Z2=> ?_;subst Z2
 refine ea02 (scOk_names hok) fun nm1 nm2=> ?_
 refine wpAny_comprehension_free (use:=use) rfl (folded_no hit env) (scOk_closure st.es hok) hkind nm1 ?_
 refine comp_src C hi hsrc rm st hsv hxs fun I s₂ St' x₂ hI hlt hItF hstF=> ?_
 have st₂:=st.ext C.top x₂
 refine comp_lay C (run:=fun acc cenv s₄=>codeAny (model prog w) A (.compStart (.ListComp x [⟨t,i,fs,0⟩] scope pos) 0 (.ref I) acc cenv) (compPost (model prog w) A E use Q acc cenv.locals) s₄) (Q:=fun Z Z=>True) st₂ hok hkind fun D₀ cenv s₄ L=> ?_
 have hIt':=(hItF T k).it A (D₀::W) rm
 have hst : ∀ s'',Ext s₂ s''->St' (D₀::W) 0 s'':=fun s'' x=>hstF (D₀::W) s'' (fun a ha=>by
  rcases List.mem_cons.mp ha with rfl|ha
  ·exact .inr L.new
  ·exact .inl ha) x
 have Iin:s₂.heap.get? I=none->False:=fun q=>by
  obtain ⟨o,ho⟩:=hlt
  exact nomatch ho.symm.trans q
 have loop:codeAny (model prog w) A (.compLoop (.ListComp x [⟨t,i,fs,0⟩] scope pos) 0 (.ref I) (.ref D₀) cenv) (compPost (model prog w) A E use Q (.ref D₀) cenv.locals) s₄:=by
  have hIs:s.heap.get? I=none:=hI
  refine comp_loop C rm rfl rfl rfl rfl (turn1 x t i fs scope pos (.ref I) (.ref D₀) cenv) hIt' hs ha htg hme hmc nm2 (fun y hy=>by exact rwl (lk_hide _ _ _) (rwl (if_pos hy) rfl)) (hide_no _ _)
   (P₀:=fun a=>s.heap.get? a=none) (s₁:=s) (out:=[]) (rest:=out) List.mem_cons_self (x₂.none L.new) (fun a ha=>by cases ha;exact hIs) (fun y hy=>x₂.none (L.slots y hy)) (fun a ha hs=> ?_) (fun a ha hs=> ?_) (fun s' c=>C.top.mono _ _ st.tp fun b o e=>c.keep b o (fun q=>by exact nomatch q.symm.trans e) e)
   (by unfold szL at hlen;simp;exact Nat.le_trans hlen (Nat.le_of_ble_eq_true rfl)) ⟨(x₂.trans L.ext).chg,L.st.fr,L.st,[],0,L.acc,.nil⟩ (hst s₄ L.ext) hrun fun s' l=> ?_
  ·cases ha
   rcases L.cells _ hs with q|⟨y,q⟩
   ·exact Iin q
   ·refine ea22 (st.fr.cells y _ q) fun v o ho hd=> ?_
    exact nomatch hIs.symm.trans ho
  ·cases hs
   rcases List.mem_cons.mp ha with rfl|ha
   ·exact Iin L.new
   ·refine ea21 (st.sh _ ha) fun vs n e=> ?_;exact nomatch hIs.symm.trans e
  ·refine ea22 l.acc fun ys n hacc hys=> ?_
   exact h out D₀ cenv.locals s' ys n rfl (l.chg.ext (fun Z q=>q) fun Z q=>q.elim) (x₂.none L.new) (x₂.none L.loc) L.apart hacc (hys.sub fun a ha=>List.mem_cons_of_mem _ ha) hys l.fr.ns
 exact codeAny_compStart_list loop (hIt'.self 0 _ _ _ (hst s₄ L.ext) loop)
end
noncomputable def turnTA (c:Code) (e t1 i1 i2:Expr) (it acc:Value) (env:Env):Sem PySem.Fin:=do
 standAt i1.pos
 match <- pyNext it with
 | none=>pure (.done .next)
 | some v=>
  letOwnedTupleGo t1 it v
  assign t1 env v
  let mut ok:=true
  for c in ([]:List Expr) do
   if ok then ok <- isTrue c env (eval c env)
  if ok then
   let x <- eval i2 env
   standAt i2.pos
   let x <- foldedSetIterable i2 env x
   let _ <- runOwn (.compStart e 1 (<- holding [x] (pyIter x)) acc env) env
  again c
theorem turnA (elt t1 i1 t2 i2:Expr) (scope:Scope) (pos:Pos) (it acc:Value) (env:Env) :
  compTurn (.ListComp elt [⟨t1,i1,[],0⟩,⟨t2,i2,[],0⟩] scope pos) 0 it acc env=turnTA (.compLoop (.ListComp elt [⟨t1,i1,[],0⟩,⟨t2,i2,[],0⟩] scope pos) 0 it acc env) (.ListComp elt [⟨t1,i1,[],0⟩,⟨t2,i2,[],0⟩] scope pos) t1 i1 i2 it acc env:=by rfl
section
variable {prog:Program} {w:World} {A:Around} {R:Result->Shared->Prop} {s:Shared}
theorem start2 {elt t1 i1 t2 i2:Expr} {scope:Scope} {pos:Pos} {it acc:Value} {env:Env}
  (h0:codeAny (model prog w) A (.compLoop (.ListComp elt [⟨t1,i1,[],0⟩,⟨t2,i2,[],0⟩] scope pos) 1 it acc env) R s)
  (h:wpAny (model prog w) A (pyIter it) (fun it' s'=>codeAny (model prog w) A (.compLoop (.ListComp elt [⟨t1,i1,[],0⟩,⟨t2,i2,[],0⟩] scope pos) 1 it' acc env) R s')
   (notedBy (model prog w) A env fun x s'=>R (.error x) s') s) :
  codeAny (model prog w) A (.compStart (.ListComp elt [⟨t1,i1,[],0⟩,⟨t2,i2,[],0⟩] scope pos) 1 it acc env) R s:=by
 refine codeAny_of_tree ?_
 show wpAny _ _ ((compStart (.ListComp elt [⟨t1,i1,[],0⟩,⟨t2,i2,[],0⟩] scope pos) 1 it acc env).onRaise (fun x=>do noteFrame x env;standAt theWindowsPlace)) _ _ s
 refine wpAny_notedAt ?_
 show wpAny _ _ (ask >>= _) _ _ s
 refine wpAny_bind (wpAny_askSetting (wpAny_ite ?_))
 split
 ·first
   | exact wpAny_bind (wpAny_pure (wpAny_pure (And.intro rfl h0)))
   | exact wpAny_pure (And.intro rfl h0)
 ·first
   | exact wpAny_bind (wpAny_rule (wpAny_bind (wpAny_standAt (wpAny_bind (wpAny_mono h (fun it' s' h'=>wpAny_pure (And.intro rfl h')) fun Z Z x=>x)))))
   | (refine wpAny_bind (wpAny_rule ?_);show wpAny _ _ (standAt i2.pos >>= _) _ _ s;exact wpAny_bind (wpAny_standAt (wpAny_bind (wpAny_mono h (fun it' s' h'=>wpAny_pure (And.intro rfl h')) fun Z Z x=>x))))
theorem loop_anyA {elt t1 i1 t2 i2:Expr} {scope:Scope} {pos:Pos} {it acc:Value} {env:Env} (I:Nat->Shared->Prop) (hit:itOk i2=true)
  (turn : ∀ n s,I n s->wpAny (model prog w) A (pyNext it) (fun r s₁=>match r with
   | none=>R (.ok .next) s₁
   | some v=>wpAny (model prog w) A (letOwnedTupleGo t1 it v) (fun Z s₁'=>wpAny (model prog w) A (assign t1 env v) (fun Z s₂=>
     wpAny (model prog w) A (eval i2 env) (fun x s₃=>wpAny (model prog w) A (pyIter x) (fun y s₄=>
      codeAny (model prog w) (A.mark none) (.compStart (.ListComp elt [⟨t1,i1,[],0⟩,⟨t2,i2,[],0⟩] scope pos) 1 y acc env) (fun r s₅=>match r with | .ok _=> ∃ m,m<n/\I m s₅ | .error _=>False) s₄)
      (notedBy (model prog w) A env fun e s'=>R (.error e) s') s₃) (notedBy (model prog w) A env fun e s'=>R (.error e) s') s₂) (notedBy (model prog w) A env fun e s'=>R (.error e) s') s₁') (notedBy (model prog w) A env fun e s'=>R (.error e) s') s₁) (notedBy (model prog w) A env fun e s'=>R (.error e) s') s)
  (n:Nat) (h:I n s):codeAny (model prog w) A (.compLoop (.ListComp elt [⟨t1,i1,[],0⟩,⟨t2,i2,[],0⟩] scope pos) 0 it acc env) R s:=by
 refine codeAny_loop rfl I (fun n s hI=> ?_) n h
 have hw:(Code.compLoop (.ListComp elt [⟨t1,i1,[],0⟩,⟨t2,i2,[],0⟩] scope pos) 0 it acc env).weight=0:=rfl
 have hcu:(Code.compLoop (.ListComp elt [⟨t1,i1,[],0⟩,⟨t2,i2,[],0⟩] scope pos) 0 it acc env).cUnits=0:=rfl
 refine rwl (Around.under_of_weight hw hcu) ?_
 show wpAny _ A ((compTurn (.ListComp elt [⟨t1,i1,[],0⟩,⟨t2,i2,[],0⟩] scope pos) 0 it acc env).onRaise (fun x=>do noteFrame x env;theTreesLotGoes x)) _ _ s
 refine wpAny_noted ?_
 rw [turnA]
 refine wpAny_bind (wpAny_standAt (wpAny_bind (wpAny_mono (turn n s hI) (fun r s₁ h₁=> ?_) fun Z Z h'=>h')))
 rcases r with _|v
 ·exact wpAny_pure h₁
 ·refine wpAny_bind (wpAny_mono h₁ (fun Z s₁' h₁'=> ?_) fun Z Z h'=>h')
  refine wpAny_bind (wpAny_mono h₁' (fun Z s₂ h₂=> ?_) fun Z Z h'=>h')
  refine wpAny_bind ?_
  refine rwl List.forIn_nil ?_
  refine wpAny_pure ?_
  refine wpAny_bind (wpAny_mono h₂ (fun x s₃ h₃=>wpAny_bind (wpAny_standAt (wpAny_bind ?_))) fun Z Z h'=>h')
  refine rwl (folded_no hit _ _) ?_
  refine wpAny_pure (wpAny_bind (wpAny_holding (wpAny_mono h₃ (fun y s₄ h₄=> ?_) fun Z Z h'=>h')))
  refine wpAny_bind (wpAny_runOwn (codeAny_mono h₄ fun r s₅ hr=> ?_))
  rcases r with e|f
  ·exact hr.elim
  ·exact wpAny_pure ⟨rfl,hr⟩
end
section
variable {prog:Program} {w:World} {T:Heap->Prop} {V:Value->Prop} {F:Str->Option Addr} {Φ B:Fns} {k:Nat}
theorem Room.mark {A:Around} {k:Nat} (r:Room A k):Room (A.mark none) k:=⟨r.hh,r.dp,r.un⟩
theorem sa_nil:SA prog w T V Φ B k .nil:=by
 intro sc es A env W ρ s b Q E hm rm st he h
 obtain rfl:=nilB hm;obtain rfl:=Option.some.inj he
 refine rwl List.forIn_nil ?_;exact wpAny_pure (h _ (Ext.refl s))
theorem eltF_nil (tg:Tg) (ρ:Loc) (elt:ME):eltF Φ B tg ρ .nil elt=fun y=>(bindT tg y ρ).bind fun ρ''=>(ev Φ B elt ρ'').map some:=by
 funext y
 unfold eltF
 rcases bindT tg y ρ with _|_<;>rfl
theorem compRun_len {f:D->Option (Option D)} : ∀ {xs ys:List D},compRun f xs=some ys->ys.length<=xs.length
 | [],ys,h=>by simp only [compRun,Option.some.injEq] at h;subst h;exact Nat.le_refl _
 | x::r,ys,h=>by
  unfold compRun at h
  split at h
  ·refine ea12 (Option.map_eq_some_iff.mp h) fun zs hz Z2=> ?_;subst Z2
   have:=compRun_len hz
   simp;exact this
  ·have:=compRun_len h
   simp;exact Nat.le.step this
  ·exact nnE h
set_option tactic.hygienic true in
theorem bind_noO {tg:Tg} {d:D} {ρ ρ':Loc} (h:bindT tg d ρ=some ρ') {x:Str} (hx:x∈tgNames tg) {ds:List D}:lk ρ' x ≠ .o ds:=by
 rcases tg with y|xs
 ·simp only [bindT,Option.some.injEq] at h;subst h
  simp only [tgNames,List.mem_singleton] at hx;subst hx
  refine rwl (lk_upd _ _ _ _) (rwl (if_pos (beq_self_eq_true _)) ?_);intro q;exact nomatch q
 ·simp only [bindT] at h
  split at h
  ·split at h
   ·rename_i es _ hl
    simp only [Option.some.injEq] at h;subst h
    have key : ∀ (ps:List (Str×D)) (ρ:Loc),(x∈ps.map (·.1) \/ ∀ ds,lk ρ x ≠ .o ds)->lk (ps.foldl (fun ρ p=>upd ρ p.1 (.d p.2)) ρ) x ≠ .o ds:=by
     intro ps
     induction ps with
     | nil=>intro ρ hq;rcases hq with q|q
            ·exact nomatch q
            ·exact q ds
     | cons p ps ih=>
      intro ρ hp
      refine rwl List.foldl_cons ?_
      refine ih _ ?_
      by_cases hm:x∈ps.map (·.1)
      ·exact .inl hm
      ·refine .inr fun ds=> ?_
       refine rwl (lk_upd _ _ _ _) ?_
       split
       ·intro q;exact nomatch q
       ·rename_i hne
        rcases hp with q|q
        ·rcases List.mem_cons.mp q with q|q
         ·exact absurd (beq_iff_eq.mpr q.symm) hne
         ·exact absurd q hm
        ·exact q ds
    refine key _ _ (.inl ?_)
    rw [List.map_fst_zip]
    ·exact hx
    ·exact Nat.le_of_eq hl.symm
   ·exact nnE h
  ·exact nnE h
structure Comp2M (elt:ME) (t1:Tg) (i1:ME) (t2:Tg) (i2:ME) (sc:Sc) (x t i t' i':Expr) (scope:Scope):Prop where
 g1:tgOk t1 t=true
 g2:tgOk t2 t'=true
 ok:scOk sc (tgNames t1++tgNames t2) scope.names=true
 kd:scope.kind = .function
 j1:itOk i=true
 j2:itOk i'=true
 m1:mt i1 sc i=true
 m2:mt i2 scope.names i'=true
 me:mt elt scope.names x=true
noncomputable def flatF (Φ B:Fns) (g1:Tg) (it2:ME) (g2:Tg) (elt:ME) (ρ₀:Loc) (x:D):Option (List D):=(bindT g1 x ρ₀).bind fun ρ'=>(ev Φ B it2 ρ').bind fun src2=>(items? src2).bind fun ys=>if ys.length<=1000 then
 compRun (fun y=>(bindT g2 y ρ').bind fun ρ''=>(ev Φ B elt ρ'').map some) ys else none
set_option tactic.hygienic true in
theorem flat_cons {f:D->Option (List D)} {d:D} {ds rest:List D} (h:compFlat f (d::ds)=some rest) : ∃ ys r,f d=some ys/\compFlat f ds=some r/\ys++r=rest:=by
 unfold compFlat at h
 split at h
 ·rename_i ys hys
  refine ea12 (Option.map_eq_some_iff.mp h) fun r hr q=> ?_
  exact ⟨ys,r,hys,hr,q⟩
 ·exact nnE h
theorem comp2_el {elt:ME} {t1:Tg} {i1:ME} {t2:Tg} {i2:ME} {sc:Sc} {e:Expr} {P:Expr->Prop} (h:mt (.comp2 elt t1 i1 t2 i2) sc e=true) (k : ∀ x t i t' i' scope pos,Comp2M elt t1 i1 t2 i2 sc x t i t' i' scope->P (.ListComp x [⟨t,i,[],0⟩,⟨t',i',[],0⟩] scope pos)):P e:=by
 apply onListComp_el h;clear h;intro x gs scope pos h
 apply on2_el h;clear h;intro g g' h
 apply onGen_el h;clear h;intro t i fs h
 apply onGen_el h;clear h;intro t' i' fs' h
 refine and5 h fun h h8 h9 h10 h11=>and7 h fun h1 h2 h3 h4 h5 h6 h7=> ?_
 obtain rfl:=nilB h1;obtain rfl:=nilB h2
 exact k x t i t' i' scope pos ⟨h3,h4,h5,eqB h6,h7,h8,h9,h10,h11⟩
theorem comp2_core (C:Ctx prog w T V F Φ B k) {elt it1 it2:ME} {g1 g2:Tg} (hi1:SE prog w T V Φ B k it1) (hi2:SE prog w T V Φ B k it2) (hs:SE prog w T V Φ B k elt)
  {sc:Sc} {x t1 i1 t2 i2:Expr} {scope:Scope} {pos p:Pos} {A:Around} {env:Env} {W:List Addr} {ρ:Loc} {s:Shared} {d:D} {use:Option (Value->Sem Unit)} {Q:Value->Shared->Prop} {E:Value->Shared->Prop}
  (hm:Comp2M elt g1 it1 g2 it2 sc x t1 i1 t2 i2 scope) (rm:Room A k) (st:St T V W env sc ρ s) (he:ev Φ B (.comp2 elt g1 it1 g2 it2) ρ=some d)
  (h : ∀ ds D₀ C₀ s' ys n,d = .list ds->Ext s s'->s.heap.get? D₀=none->s.heap.get? C₀=none->C₀≠D₀->s'.heap.get? D₀=some (lObj ys n)->RepL W s'.heap ys ds->RepL (D₀::W) s'.heap ys ds->(∃ m,s'.heap.Ns C₀ m) ->
   compPost (model prog w) A E use Q (.ref D₀) C₀ (.ok .next) s') :
  wpAny (model prog w) A (comprehension (.ListComp x [⟨t1,i1,[],0⟩,⟨t2,i2,[],0⟩] scope pos) scope env p (newList []) false (eval i1 env) use) Q E s:=by
 obtain ⟨htg1,htg2,hok,hkind,hit1,hit2,hm1,hm2,hme⟩:=hm
 refine bindE he fun src hsv he=> ?_
 refine bindE he fun xs hxs he=> ?_
 have hlen:=(iteO he).1;replace he:=(iteO he).2
 refine ea12 (Option.map_eq_some_iff.mp he) fun out hrun Z2=> ?_;subst Z2
 refine ea02 (scOk_names hok) fun nm1 nm2=> ?_
 have hnod:(tgNames g1++tgNames g2).Nodup:=by
  exact of_decide_eq_true (andB hok).2
 refine wpAny_comprehension_free (use:=use) rfl (folded_no hit1 env) (scOk_closure st.es hok) hkind nm1 ?_
 refine comp_src C (r:=false) hi1 hm1 rm st hsv hxs fun I s₂ St' x₂ hI hlt hItF hstF=> ?_
 have st₂:=st.ext C.top x₂
 refine comp_lay C (run:=fun acc cenv s₄=>codeAny (model prog w) A (.compStart (.ListComp x [⟨t1,i1,[],0⟩,⟨t2,i2,[],0⟩] scope pos) 0 (.ref I) acc cenv) (compPost (model prog w) A E use Q acc cenv.locals) s₄) (Q:=fun Z Z=>True) st₂ hok hkind fun D₀ cenv s₄ L=> ?_
 have hIt':=(hItF T k).it A (D₀::W) rm
 have hst : ∀ s'',Ext s₂ s''->St' (D₀::W) 0 s'':=fun s'' x=>hstF (D₀::W) s'' (fun a ha=>by
  rcases List.mem_cons.mp ha with rfl|ha
  ·exact .inr L.new
  ·exact .inl ha) x
 have Iin:s₂.heap.get? I=none->False:=fun q=>by
  obtain ⟨o,ho⟩:=hlt
  exact nomatch ho.symm.trans q
 have hIs:s.heap.get? I=none:=hI
 have IW : ∀ a∈D₀::W,¬ a=I:=fun a ha hs=>by
  cases hs
  rcases List.mem_cons.mp ha with rfl|ha
  ·exact Iin L.new
  ·refine ea21 (st.sh _ ha) fun vs n e=> ?_;exact nomatch hIs.symm.trans e
 have IS : ¬ Slots cenv I:=fun hs=>by
  rcases L.cells _ hs with q|⟨y,q⟩
  ·exact Iin q
  ·refine ea22 (st.fr.cells y _ q) fun v o ho hd=> ?_
   exact nomatch hIs.symm.trans ho
 have hDn:s.heap.get? D₀=none:=x₂.none L.new
 let P₀:Addr->Prop:=fun a=>s.heap.get? a=none
 have hSl : ∀ y,(scope.names.lookup y=some .local\/scope.names.lookup y=some .cell)->P₀ (slotOf cenv scope.names y):=fun y hy=>x₂.none (L.slots y hy)
 have Tof : ∀ s',Chg P₀ (fun Z=>False) s s'->T s'.heap:=fun s' c=>C.top.mono _ _ st.tp fun b o e=>c.keep b o (fun q=>by rw [show s.heap.get? b=none from q] at e;exact nnE e) e
 generalize hρ₀:hide (tgNames g1++tgNames g2) ρ=ρ₀ at *
 have hun : ∀ y∈tgNames g1++tgNames g2,lk ρ₀ y = .un:=fun y hy=>by exact lwr hρ₀ (rwl (lk_hide _ _ _) (rwl (if_pos hy) rfl))
 have hno : ∀ y ds,lk ρ₀ y ≠ .o ds:=hρ₀▸hide_no _ _
 have loop:codeAny (model prog w) A (.compLoop (.ListComp x [⟨t1,i1,[],0⟩,⟨t2,i2,[],0⟩] scope pos) 0 (.ref I) (.ref D₀) cenv) (compPost (model prog w) A E use Q (.ref D₀) cenv.locals) s₄:=by
  refine loop_anyA (CI T V (D₀::W) cenv scope.names ρ₀ D₀ P₀ s (St' (D₀::W)) xs.length fun i out'=> ∃ rest',compFlat (flatF Φ B g1 it2 g2 elt ρ₀) (xs.drop i)=some rest'/\out'++rest'=out/\out'.length<=i*1000) hit2 ?_ (xs.length+1)
   ⟨0,[],rfl,Nat.zero_le _,⟨(x₂.trans L.ext).chg,L.st.fr,L.st,[],0,L.acc,.nil⟩,hst s₄ L.ext,out,hrun,rfl,Nat.zero_le _⟩
  intro n s' hci
  obtain ⟨i,out',rfl,hi,l',hst,rest',hrun,hout,hlen'⟩:=hci
  by_cases hlt:i<xs.length
  ·have hget:xs[i]? = some xs[i]:=List.getElem?_eq_getElem hlt
   refine hIt'.item i s' xs[i] _ _ hst hget fun v s₂ hst₂ c₂ rv=> ?_
   have bl₂:Blind (D₀::W) s'.heap (·= I):=fun a ha=> .inr (hIt'.blind i s' hst a ha)
   have hPI : ∀ a,a=I->P₀ a:=fun a ha=>by cases ha;exact hIs
   have l₂:=l'.step C.top List.mem_cons_self c₂ hPI bl₂ (fun a ha=>by cases ha;exact IS) IW (Tof _ (l'.chg.trans (c₂.mono hPI fun Z h=>h)))
   refine hIt'.letgo (i+1) s₂ t1 v _ _ hst₂ ?_
   rw [List.drop_eq_getElem_cons hlt] at hrun
   refine ea23 (flat_cons hrun) fun ys rest₂ hys hrest hcat=> ?_
   refine bindE hys fun ρ' hb hys=>bindE hys fun src2 hsv2 hys=>bindE hys fun zs hzs hys=> ?_
   have hzl:=(iteO hys).1;replace hys:=(iteO hys).2
   have weak : ∀ y,lk ρ₀ y = .un\/lk ρ₀ y=lk ρ' y:=fun y=>by
    by_cases hy:y∈tgNames g1
    ·exact .inl (hun y (List.mem_append_left _ hy))
    ·exact .inr (bind_lk hb hy).symm
   have nm21 : ∀ y∈tgNames g1,scope.names.lookup y=some .local\/scope.names.lookup y=some .cell:=fun y hy=>nm2 y (List.mem_append_left _ hy)
   refine assign_tg rm.hh l₂.st.es l₂.fr l₂.st.br htg1 nm21 (l₂.fr.shut l₂.st.sh) (rv l₂.st.sh) hb fun s₃ fr₃ b₃ c₃=> ?_
   have nsl : ∀ a,(∃ y∈tgNames g1,a=slotOf cenv scope.names y)->Slots cenv a:=fun a Z9=>ea12 Z9 fun y hy e=>e▸slot_in l₂.st.es (nm21 y hy)
   have bl₃:Blind (D₀::W) s₂.heap (fun a=> ∃ y∈tgNames g1,a=slotOf cenv scope.names y):=fun a ha=>l₂.fr.blind a (nsl a ha)
   have c₃':Chg P₀ (fun Z=>False) s₂ s₃:=c₃.mono (fun a Z9=>ea12 Z9 fun y hy e=>e▸hSl y (nm21 y hy)) fun Z q=>q
   have T₃:=Tof s₃ (l₂.chg.trans c₃')
   have hW₃:=l₂.fr.shut l₂.st.sh
   have st₃:St T V (D₀::W) cenv scope.names ρ' s₃:=⟨l₂.st.es,l₂.st.sh.chg c₃ fun a ha q=>hW₃ a ha (nsl a q),T₃,b₃,fr₃,fun x u e=>l₂.st.tv x u (bind_v hb e)⟩
   have hst₃:St' (D₀::W) (i+1) s₃:=hIt'.frame _ _ _ hst₂ T₃ (fun b o hb e=>c₃.keep b o (fun q=>by
    rcases hb with hb|⟨hb,hq⟩
    ·cases hb;exact IS (nsl _ q)
    ·rcases bl₃ b q with z|z
     ·exact hb z
     ·exact z o e hq) e) fun Z Z h=>h.elim
   refine ea22 l₂.acc fun as m hacc has=> ?_
   have acc₃:s₃.heap.get? D₀=some (lObj as m):=c₃.keep _ _ (fun q=>hW₃ _ List.mem_cons_self (nsl _ q)) hacc
   have as₃:RepL (D₀::W) s₃.heap as out':=has.chg c₃ bl₃
   refine comp_src C (r:=false) hi2 hm2 rm st₃ hsv2 hzs fun I₂ s₅ St₂ x₅ hI₂ hlt₂ hItF₂ hstF₂=> ?_
   have hIt₂':=(hItF₂ T k).it (A.mark none) (D₀::W) rm.mark
   have hst₂' : ∀ s'',Ext s₅ s''->St₂ (D₀::W) 0 s'':=fun s'' x=>hstF₂ (D₀::W) s'' (fun a ha=> .inl ha) x
   have st₅:=st₃.ext C.top x₅
   have hst₅:St' (D₀::W) (i+1) s₅:=hIt'.frame _ _ _ hst₃ st₅.tp (fun b o Z e=>x₅.keep b o e) fun Z Z h=>h.elim
   have acc₅:=x₅.keep _ _ acc₃
   have I₂W : ∀ a∈D₀::W,¬ a=I₂:=fun a ha hs=>by
    cases hs
    refine ea21 (st₃.sh _ ha) fun vs n e=> ?_;exact nomatch hI₂.symm.trans e
   have I₂S : ¬ Slots cenv I₂:=fun hs=>by
    rcases hs with q|⟨y,q⟩
    ·refine ea42 fr₃.ns fun mm o es' ep ho hd=> ?_;rw [<- q,hI₂] at ho;exact nnE ho
    ·refine ea22 (fr₃.cells y _ q) fun vv o ho hd=> ?_;exact nomatch hI₂.symm.trans ho
   have chg₅:Chg P₀ (fun Z=>False) s s₅:=(l₂.chg.trans c₃').trans x₅.chg
   have fresh₃ : ∀ a,s₃.heap.get? a=none->P₀ a:=fun a q=>by
    rcases e:s.heap.get? a with _|o
    ·exact e
    ·rw [(l₂.chg.trans c₃').keep a o (fun z=>by rw [show s.heap.get? a=none from z] at e;exact nomatch e) e] at q;exact nomatch q
   let P₁:Addr->Prop:=fun a=>s₃.heap.get? a=none\/a=D₀ \/ ∃ y,(scope.names.lookup y=some .local\/scope.names.lookup y=some .cell)/\a=slotOf cenv scope.names y
   have hP₁₀ : ∀ a,P₁ a->P₀ a:=fun a ha=>by
    rcases ha with q|rfl|⟨y,hy,rfl⟩
    ·exact fresh₃ a q
    ·exact hDn
    ·exact hSl y hy
   have loop₂:codeAny (model prog w) (A.mark none) (.compLoop (.ListComp x [⟨t1,i1,[],0⟩,⟨t2,i2,[],0⟩] scope pos) 1 (.ref I₂) (.ref D₀) cenv) (fun r s₅=>match r with
     | .ok _=> ∃ m,m<xs.length+1-i/\CI T V (D₀::W) cenv scope.names ρ₀ D₀ P₀ s (St' (D₀::W)) xs.length (fun i out'=> ∃ rest',compFlat (flatF Φ B g1 it2 g2 elt ρ₀) (xs.drop i)=some rest'/\out'++rest'=out/\out'.length<=i*1000) m s₅
     | .error _=>False) s₅:=by
    have hdis : ∀ y∈tgNames g2,y∉tgNames g1:=fun y h2 h1=>(List.nodup_append.mp hnod).2.2 y h1 y h2 rfl
    refine comp_loop C rm.mark rfl rfl rfl rfl (turn2 x t1 i1 t2 i2 [] scope pos (.ref I₂) (.ref D₀) cenv) hIt₂' hs sa_nil htg2 hme (by rfl) (fun y hy=>nm2 y (List.mem_append_right _ hy))
     (fun y hy=>by refine rwl (bind_lk hb (hdis y hy)) ?_;exact hun y (List.mem_append_right _ hy)) (fun y ds q=> ?_)
     (P₀:=P₁) (s₁:=s₃) (out:=out') (rest:=ys) List.mem_cons_self (.inr (.inl rfl)) (fun a ha=>by cases ha;exact .inl hI₂) (fun y hy=> .inr (.inr ⟨y,hy,rfl⟩)) (fun a ha=>by cases ha;exact I₂S) (fun a ha=>I₂W a ha)
     (fun s' c=>Tof s' ((l₂.chg.trans c₃').trans (c.mono hP₁₀ fun Z h=>h)))
     (by exact H402 hlen' hzl hlt hlen) ⟨x₅.chg,st₅.fr,st₅,as,m,acc₅,as₃.ext x₅⟩ (hst₂' s₅ (Ext.refl _)) (by refine rwl (eltF_nil _ _ _) ?_;exact hys) fun s₆ l₆=> ?_
    ·by_cases hy:y∈tgNames g1
     ·exact bind_noO hb hy q
     ·rw [bind_lk hb hy] at q;exact hno y ds q
    ·refine ⟨xs.length+1-(i+1),by exact H401 hlt,i+1,out'++ys,rfl,hlt,⟨(l₂.chg.trans c₃').trans (l₆.chg.mono hP₁₀ fun Z h=>h),l₆.fr,⟨l₆.st.es,l₆.st.sh,l₆.st.tp,l₆.st.br.weaken weak,l₆.fr,l₂.st.tv⟩,l₆.acc⟩,?_,rest₂,hrest,by exact rwl (List.append_assoc _ _ _) (rwl hcat (rwl hout rfl)),?_⟩
     ·refine hIt'.frame _ _ _ hst₃ l₆.st.tp (fun b o hb' e=>l₆.chg.keep b o (fun q=> ?_) e) fun Z Z h=>h.elim
      rcases q with q|q|⟨y,hy,q⟩
      ·exact nomatch q.symm.trans e
      ·cases q
       rcases hb' with hb'|⟨hb',_⟩
       ·exact IW _ List.mem_cons_self hb'
       ·exact hb' List.mem_cons_self
      ·cases q
       have sl:=slot_in l₂.st.es hy
       rcases hb' with hb'|⟨hb',hq⟩
       ·exact IS (hb'▸sl)
       ·rcases fr₃.blind (W:=D₀::W) _ sl with z|z
        ·exact hb' z
        ·exact z o e hq
     ·have:=compRun_len hys
      simp;exact H403 hlen' this hzl
   exact start2 loop₂ (hIt₂'.self 0 _ _ _ (hst₂' s₅ (Ext.refl _)) loop₂)
  ·have hi':i=xs.length:=by exact Nat.le_antisymm hi (Nat.le_of_not_lt hlt)
   subst hi'
   refine hIt'.done s' _ _ hst fun s₂ c₂=> ?_
   have bl₂:Blind (D₀::W) s'.heap (·= I):=fun a ha=> .inr (hIt'.blind _ s' hst a ha)
   have hPI : ∀ a,a=I->P₀ a:=fun a ha=>by cases ha;exact hIs
   have l₂:=l'.step C.top List.mem_cons_self c₂ hPI bl₂ (fun a ha=>by cases ha;exact IS) IW (Tof _ (l'.chg.trans (c₂.mono hPI fun Z h=>h)))
   rw [List.drop_length] at hrun
   obtain rfl:=Option.some.inj hrun
   rw [List.append_nil] at hout
   subst hout
   refine ea22 l₂.acc fun ys n hacc hys=> ?_
   exact h out' D₀ cenv.locals s₂ ys n rfl (l₂.chg.ext (fun Z q=>q) fun Z q=>q.elim) hDn (x₂.none L.loc) L.apart hacc (hys.sub fun a ha=>List.mem_cons_of_mem _ ha) hys l₂.fr.ns
 exact codeAny_compStart_list loop (hIt'.self 0 _ _ _ (hst s₄ L.ext) loop)
end
section
variable {prog:Program} {w:World} {T:Heap->Prop} {V:Value->Prop} {F:Str->Option Addr} {Φ B:Fns} {k:Nat}
theorem backTo_all {sc:Sc} {env:Env} {pos:Pos} {ms:MEs} {es:List Expr} (h:mtL ms sc es=true):((backTo pos (starEach es env)).all (!·.1))=true:=by
 refine rwl List.all_eq_not_any_not ?_
 simp only [Bool.not_not,plain_any h,Bool.not_false]
theorem mcall {A:Around} {E:Value->Shared->Prop} {s:Shared} {env:Env} {y:Str} {np ap pos:Pos} {name:Str} {args:List Expr} {Q:Value->Shared->Prop}
  (hall:((backTo pos (starEach args env)).all (!·.1))=true) (hlen:args.length<20) (hline:(ap.endLine==pos.line)=true)
  (h:wpAny (model prog w) A (eval (.Name y np) env) (fun ov s₁=> ∀ pl,wpAny (model prog w) A (getMethod ov name pl) (fun r s₂=>wpAny (model prog w) A (callWith pos r.1 r.2 (backTo pos (starEach args env)) []) Q E s₂) E s₁) E s) :
  wpAny (model prog w) A (eval (.Call (.Attribute (.Name y np) name ap) args [] pos) env) Q E s:=by
 rw [arm_eval_Call];refine rwl (attrBase_plain (by rfl)) ?_
 refine wpAny_bind (wpAny_mono h (fun ov s₁ h₁=> ?_) fun Z Z e=>e)
 refine wpAny_bind (wpAny_standAt ?_)
 have hform:methodCallForm (args.length+([]:List Keyword).length) (backTo pos (starEach args env)) (backToKw pos (keywordEach [] env))=true:=by
  unfold methodCallForm
  refine rwl hall ?_
  show (true&&true&&decide (args.length+0+0<30))=true
  simp;exact Nat.lt_of_lt_of_le hlen (Nat.le_of_ble_eq_true rfl)
 have hpos:methodCallPos true (.Name y np) env ap pos=pure pos:=by unfold methodCallPos;simp [hline]
 unfold methodCall
 refine rwl hform ?_
 refine wpAny_bind (wpAny_holding ?_)
 unfold calleeOf
 refine rwl (if_pos rfl) ?_
 refine wpAny_mono (h₁ _) (fun r s₂ h₂=> ?_) fun Z Z e=>e
 exact wpAny_bind (wpAny_of_eq hpos h₂)
theorem ev_om {x f:Str} {as:MEs} {ρ:Loc} {d:D} (h:ev Φ B (.om x f as) ρ=some d) : ∃ u,lk ρ x = .v u/\((evL Φ B as ρ).bind fun ds=>B f (.bool true :: .bool true::ds))=some d:=by
 replace h:(match lk ρ x with | .v _=>(evL Φ B as ρ).bind fun ds=>B f (.bool true :: .bool true::ds)|_=>none)=some d:=h
 revert h;(rcases lk ρ x with _|_|_|u;(case v=>exact fun h=>⟨u,rfl,h⟩);all_goals (exact fun h=>nomatch h))
theorem se_om (C:Ctx prog w T V F Φ B k) {x f:Str} {as:MEs} (hl:SL prog w T V Φ B k as):SE prog w T V Φ B k (.om x f as):=by
 intro sc e A env W ρ s d' Q E hm rm st he h
 apply onCall_el hm;clear hm;intro c xs ks pos hm
 apply onAttribute_el hm;clear hm;intro o n ap hm
 apply onName_el hm;clear hm;intro y np hm
 refine and7 hm fun hk hx hok hf hml hline hlen=> ?_
 clear hm;obtain rfl:=nilB hk;obtain rfl:=eqB hx;obtain rfl:=eqB hf
 refine ea12 (ev_om he) fun u hu he=> ?_
 refine bindE he fun ds hds he=> ?_
 refine ea13 (C.om u _ _ _ (st.tv _ _ hu) he) fun fA hget hfn hc=> ?_
 refine ea22 (hfn _ st.tp) fun o fd ho hdt=> ?_
 refine mcall (backTo_all hml) (of_decide_eq_true hlen) hline (name_holds st.es hok (st.br.v _ _ hok hu) fun pl=> ?_)
 refine hget A s pl _ _ st.tp ?_
 refine callWith_of (P:=fun h=>h.get? fA=some o) (by refine rwl (plain_any hml) ?_;rfl) (fun h' ho'=>⟨.frame,.inl rfl,keeper_fn ho' hdt⟩) ?_
 have fin : ∀ vs s₁,Ext s s₁->RepL W s₁.heap vs ds->s₁.heap.get? fA=some o/\wpAny (model prog w) A (call (.ref fA) ([u]++vs) []) Q E s₁:=fun vs s₁ x₁ r₁=>⟨x₁.keep _ _ ho,wpAny_call (codeAny_mono (hc A s₁ W vs rm (C.top.mono _ _ st.tp x₁.keep) (st.sh.keeps x₁.keep) r₁) fun r s' hr=>by
  obtain ⟨v,rfl,yy,rr⟩:=hr
  exact h _ _ (x₁.trans yy) rr)⟩
 rcases xs with _|⟨a,b⟩
 ·have hd:ds=[]:=List.eq_nil_of_length_eq_zero (mtL_len hml hds)
  subst hd
  exact evalArgs_nil3 (fin [] s (Ext.refl s) .nil)
 ·have hst:notStar a=true:=by
   rcases as with _|⟨_,_⟩
   ·exact ff hml
   ·exact and3 hml fun h Z Z=>h
  have:=hl sc (a::b) A env W ρ s ds pos _ E hml rm st hds fin
  rw [starEach_cons hst] at this ⊢
  exact evalArgs_plain this
theorem se_dg (C:Ctx prog w T V F Φ B k) {x:Str} {a b:ME} (ha:SE prog w T V Φ B k a) (hb:SE prog w T V Φ B k b):SE prog w T V Φ B k (.dg x a b):=by
 intro sc e A env W ρ s d' Q E hm rm st he h
 apply onCall_el hm;clear hm;intro c xs ks pos hm
 apply onAttribute_el hm;clear hm;intro o n ap hm
 apply onName_el hm;clear hm;intro y np hm
 apply on2_el hm;clear hm;intro p q hm
 refine and4 hm fun hm hsa hsb hline=>and7 hm fun hk hx hd hg hn hma hmb=> ?_
 obtain rfl:=nilB hk;obtain rfl:=eqB hx;obtain rfl:=eqB hn;have hd:=notB hd;have hg:=eqB hg
 refine bindE he fun dp hdp he=> ?_
 refine bindE he fun dq hdq he=> ?_
 obtain ⟨D,hgl,hget,hc⟩:=C.dg _ _ _ _ he
 have hse : ∀ env,starEach [p,q] env=[(false,eval p env),(false,eval q env)]:=fun env=>by refine rwl (starEach_cons hsa) (rwl (starEach_cons hsb) ?_);rfl
 refine mcall (by refine rwl (hse _) ?_;rfl) (by simp) hline (name_glob st.es hg hd (hgl _ st.tp) fun pl=> ?_)
 refine hget A s pl _ _ st.tp ?_
 refine callWith_of (P:=fun Z=>True) (by refine rwl (hse _) ?_;rfl) (fun h' Z=>⟨.machine,.inr (.inl rfl),keeper_mach fun a q=>by cases q⟩) ?_
 refine rwl (hse _) ?_
 refine evalArgs_plain (PySem.Calls.spliced_cons (ha sc p A env W ρ s dp _ E hma rm st hdp fun v s₁ x₁ r₁=> ?_))
 refine PySem.Calls.spliced_cons (hb sc q A env W ρ s₁ dq _ E hmb rm (st.ext C.top x₁) hdq fun u s₂ x₂ r₂=>PySem.Calls.spliced_nil ⟨trivial,?_⟩)
 exact hc A s₂ W v u Q E rm.zero (C.top.mono _ _ st.tp (x₁.trans x₂).keep) (st.sh.keeps (x₁.trans x₂).keep) (r₁.ext x₂) r₂ (h.ext (x₁.trans x₂))
theorem se_comp (C:Ctx prog w T V F Φ B k) {elt it:ME} {cs:MEs} {tg:Tg} {r:Bool} (hi:SE prog w T V Φ B k it) (hs:SE prog w T V Φ B k elt) (ha:SA prog w T V Φ B k cs):SE prog w T V Φ B k (.comp elt tg r it cs):=by
 intro sc e A env W ρ s d Q E hm rm st he h
 apply comp_el hm;clear hm;intro x t i fs scope pos hm
 refine rwl (eval_ListComp _ _ _ _) ?_
 refine comp_core C hi hs ha hm rm st he fun ds D₀ C₀ s' ys n hd x hD hC hCD hacc hys Z hns=> ?_
 subst hd
 refine ea11 hns fun m hns=> ?_
 refine ⟨m,hns,fun h' hs'=> ?_⟩
 have c:Chg (·= C₀) (fun Z=>False) s' { s' with heap:=h' }:=Chg.one s'.toks hs'
 refine h _ _ ((x.chg.trans (c.mono (P':=fun a=>s.heap.get? a=none) (fun a ha=>by subst ha;exact hC) fun Z h=>h)).ext (fun Z q=>q) fun Z q=>q.elim) ?_
 have bl:Blind W s'.heap (·= C₀):=fun a ha=>by subst ha;exact .inr (not_seq_ns hns)
 refine .list (n:=n) (fun hm=> ?_) (c.keep _ _ (Ne.symm hCD) hacc) (hys.chg c bl)
 obtain ⟨vs,nnE,e⟩:=st.sh _ hm
 exact nomatch hD.symm.trans e
theorem se_comp2 (C:Ctx prog w T V F Φ B k) {elt it1 it2:ME} {g1 g2:Tg} (hi1:SE prog w T V Φ B k it1) (hi2:SE prog w T V Φ B k it2) (hs:SE prog w T V Φ B k elt):SE prog w T V Φ B k (.comp2 elt g1 it1 g2 it2):=by
 intro sc e A env W ρ s d Q E hm rm st he h
 apply comp2_el hm;clear hm;intro x t i t' i' scope pos hm
 refine rwl (eval_ListComp _ _ _ _) ?_
 refine comp2_core C hi1 hi2 hs hm rm st he fun ds D₀ C₀ s' ys n hd x hD hC hCD hacc hys Z hns=> ?_
 subst hd
 refine ea11 hns fun m hns=> ?_
 refine ⟨m,hns,fun h' hs'=> ?_⟩
 have c:Chg (·= C₀) (fun Z=>False) s' { s' with heap:=h' }:=Chg.one s'.toks hs'
 refine h _ _ ((x.chg.trans (c.mono (P':=fun a=>s.heap.get? a=none) (fun a ha=>by subst ha;exact hC) fun Z h=>h)).ext (fun Z q=>q) fun Z q=>q.elim) ?_
 have bl:Blind W s'.heap (·= C₀):=fun a ha=>by subst ha;exact .inr (not_seq_ns hns)
 refine .list (n:=n) (fun hm=> ?_) (c.keep _ _ (Ne.symm hCD) hacc) (hys.chg c bl)
 refine ea21 (st.sh _ hm) fun vs nnE e=> ?_
 exact nomatch hD.symm.trans e
theorem forFalse {A:Around} {env:Env} {Q:Bool->Shared->Prop} {E:Value->Shared->Prop} {s:Shared} : ∀ (es:List Expr),Q false s ->
  wpAny (model prog w) A (forIn es false fun c r=>if r=true then do let ok <- isTrue c env (eval c env);pure (ForInStep.yield ok) else pure (ForInStep.yield r)) Q E s
 | [],h=>by refine rwl List.forIn_nil ?_;exact wpAny_pure h
 | c::es,h=>by
  refine rwl (List.forIn_cons _ _ _ _) ?_
  refine wpAny_bind ?_
  refine rwl (if_neg (by decide)) ?_
  exact wpAny_pure (forFalse es h)
theorem sa_cons (C:Ctx prog w T V F Φ B k) {m:ME} {r:MEs} (ht:ST prog w T V Φ B k m) (hr:SA prog w T V Φ B k r):SA prog w T V Φ B k (.cons m r):=by
 intro sc es A env W ρ s b Q E hm rm st he h
 apply mtL_el hm;clear hm;intro e es hst hme hmr
 refine bindE he fun t ht' he=> ?_
 refine bindE ht' fun d hd ht'=> ?_
 refine rwl (List.forIn_cons _ _ _ _) ?_
 refine wpAny_bind ?_
 refine rwl (if_pos rfl) ?_
 refine wpAny_bind (ht sc e A env W ρ s d t _ E hme rm st hd ht' fun s₁ x₁=> ?_)
 refine wpAny_pure ?_
 rcases t with _|_
 ·obtain rfl:=Option.some.inj he
  exact forFalse es (h s₁ x₁)
 ·exact hr sc es A env W ρ s₁ b Q E hmr rm (st.ext C.top x₁) he fun s₂ x₂=>h s₂ (x₁.trans x₂)
theorem se_g (C:Ctx prog w T V F Φ B k) {x:Str}:SE prog w T V Φ B k (.g x):=by
 intro sc e A env W ρ s d' Q E hm rm st he h
 apply onName_el hm;clear hm;intro y Z hm
 refine and3 hm fun hy hx hd=> ?_
 clear hm;obtain rfl:=eqB hy
 refine ea12 (C.gc _ _ he _ st.tp) fun v hg hr=> ?_
 exact name_glob st.es (eqB hx) (notB hd) hg (h _ _ (Ext.refl s) (hr _ _))
noncomputable def valE (e:Expr):Bool:= !([0,5,15].contains e.ctorIdx)&&(!(e.ctorIdx==3) || onUnaryOp e fun o Z Z=>o == .USub)
theorem valE_is {e:Expr} (h:valE e=true) (env:Env) (whole:Sem Value):isTrue e env whole=(do let v <- whole;standAt e.pos;holding [v] (truthy v)):=by
 rcases e with _|_|_|⟨o,_,_⟩|_|_|_|_|_|_|_|_|_|_|_|_|_|_|_|_|_|_|_|_|_|_|_
 case UnaryOp=>rcases o with _|_|_|_<;>first|rfl|exact ff h
 all_goals first|rfl|exact ff h
noncomputable def plE (e:Expr):Bool:= ![8,9,10].contains e.ctorIdx
noncomputable def isComp (m:ME):Bool:=[16,17].contains m.ctorIdx
noncomputable def valM (m:ME):Bool:= ![4,5,6,7].contains m.ctorIdx
theorem mt_cls {m:ME} {sc:Sc} {e:Expr} (h:mt m sc e=true):((isComp m || plE e)&&(!valM m || valE e))=true:=by
 rcases m with d|_|_|⟨_,_,_⟩|⟨_,_,_⟩|⟨_,_,_,_,_⟩|⟨_,_⟩|⟨_,_,_⟩|_|_|_|_|⟨_,_⟩|⟨_,_,_,_⟩|_|_|⟨_,_,_,_,_⟩|⟨_,_,_,_,_⟩|_|_|_
 case c=>
  rcases Bool.or_eq_true_iff.mp h with h|h
  ·apply onConstant_el h;clear h;intros;rfl
  ·apply onUnaryOp_el h;clear h;intro o x p h;exact and2 h fun h Z=>h
 case var=>apply onName_el h;clear h;intros;rfl
 case own=>apply onName_el h;clear h;intros;rfl
 case bin=>apply onBinOp_el h;clear h;intros;rfl
 case cmp=>apply onCompare_el h;clear h;intros;rfl
 case chn=>apply onCompare_el h;clear h;intros;rfl
 case bop=>apply onBoolOp_el h;clear h;intros;rfl
 case ite=>apply onIfExp_el h;clear h;intros;rfl
 case idx=>apply onSubscript_el h;clear h;intros;rfl
 case sl=>apply onSubscript_el h;clear h;intros;rfl
 case list=>apply onList_el h;clear h;intros;rfl
 case tup=>apply onTuple_el h;clear h;intros;rfl
 case comp=>apply onListComp_el h;clear h;intros;rfl
 case comp2=>apply onListComp_el h;clear h;intros;rfl
 case g=>apply onName_el h;clear h;intros;rfl
 all_goals (apply onCall_el h;clear h;intros;rfl)
theorem mt_pl {m:ME} {sc:Sc} {e:Expr} (h:mt m sc e=true) (hm:isComp m=false):plE e=true:=by
 have:=(andB (mt_cls h)).1
 rwa [hm] at this
theorem st_two {m:ME} (hv:valM m=true) (hs:SE prog w T V Φ B k m):SE prog w T V Φ B k m/\ST prog w T V Φ B k m:=⟨hs,st_value hs fun Z Z h=>valE_is (by have:=(andB (mt_cls h)).2;rwa [hv] at this)⟩
mutual
theorem all_se (C:Ctx prog w T V F Φ B k) : ∀ m:ME,SE prog w T V Φ B k m/\ST prog w T V Φ B k m
 | .c d=>st_two rfl (se_c d)
 | .var x=>st_two rfl (se_var x)
 | .own x=>st_two rfl (se_own x)
 | .bin op a b=>st_two rfl (se_bin C (op:=op) (all_se C a).1 (all_se C b).1)
 | .cmp op a b=>⟨se_cmp C (all_se C a).1 (all_se C b).1,st_cmp C (all_se C a).1 (all_se C b).1⟩
 | .chn o1 o2 a b c=>⟨se_chn C (all_se C a).1 (all_se C b).1 (all_se C c).1,st_chn C (all_se C a).1 (all_se C b).1 (all_se C c).1⟩
 | .bop op es=>⟨se_bop (all_sl C es).2.1,st_bop (all_sl C es).2.1⟩
 | .ite c a b=>⟨se_ite C (all_se C c).2 (all_se C a).1 (all_se C b).1,st_ite C (all_se C c).2 (all_se C a).2 (all_se C b).2⟩
 | .call f as=>st_two rfl (se_call C (f:=f) (all_sl C as).1)
 | .blt f a=>st_two rfl (se_blt C (f:=f) (all_se C a).1)
 | .met f a=>st_two rfl (se_met (f:=f) (all_se C a).1)
 | .join sep a=>st_two rfl (se_join C (sep:=sep) (all_se C a).1)
 | .idx a i=>st_two rfl (se_idx C (all_se C a).1 (all_se C i).1)
 | .sl a lo hi t=>st_two rfl (se_sl C (all_se C a).1 (all_se C lo).1 (all_se C hi).1 (all_se C t).1)
 | .list es=>st_two rfl (se_list C (all_sl C es).1)
 | .tup es=>st_two rfl (se_tup C (all_sl C es).1)
 | .comp elt tg r it cs=>st_two rfl (se_comp C (r:=r) (tg:=tg) (all_se C it).1 (all_se C elt).1 (all_sl C cs).2.2)
 | .comp2 elt t1 i1 t2 i2=>st_two rfl (se_comp2 C (g1:=t1) (g2:=t2) (all_se C i1).1 (all_se C i2).1 (all_se C elt).1)
 | .om x f as=>st_two rfl (se_om C (x:=x) (f:=f) (all_sl C as).1)
 | .dg x a b=>st_two rfl (se_dg C (x:=x) (all_se C a).1 (all_se C b).1)
 | .g x=>st_two rfl (se_g C (x:=x))
theorem all_sl (C:Ctx prog w T V F Φ B k) : ∀ ms:MEs,SL prog w T V Φ B k ms/\SBo prog w T V Φ B k ms/\SA prog w T V Φ B k ms
 | .nil=>⟨sl_nil,sbo_nil,sa_nil⟩
 | .cons m r=>⟨sl_cons C (all_se C m).1 (all_sl C r).1,sbo_cons C (all_se C m).1 (all_se C m).2 (all_sl C r).2.1,sa_cons C (all_se C m).2 (all_sl C r).2.2⟩
end
end
noncomputable def GivesF (s:Shared) (W:List Addr) (d:D) (Q:Value->Shared->Prop):Prop:=
 ∀ a vs n ds s',d = .list ds->Ext s s'->s.heap.get? a=none->s'.heap.get? a=some (lObj vs n)->RepL W s'.heap vs ds->RepL (a::W) s'.heap vs ds->Q (.ref a) s'
theorem GivesF.ext {s s':Shared} {W:List Addr} {d:D} {Q:Value->Shared->Prop} (h:GivesF s W d Q) (x:Ext s s'):GivesF s' W d Q:=
 fun a vs n ds s'' e y hn ha r r'=>h a vs n ds s'' e (x.trans y) (x.none hn) ha r r'
section
variable {prog:Program} {w:World} {A:Around} {E:Value->Shared->Prop} {s:Shared} {W:List Addr} {v u:Value} {x y d:D} {Q:Value->Shared->Prop}
theorem GivesF.push {vs:List Value} {ds:List D} (h:GivesF s W (.list ds) Q) (r:RepL W s.heap vs ds):Q (.ref s.heap.objs.size) { s with heap:=s.heap.push { cls:= .type "list", data:= .seq vs.toArray } }:=
 have x:=Ext.push' s { cls:= .type "list", data:= .seq vs.toArray }
 have hn:s.heap.get? s.heap.objs.size=none:=get?_lt (Nat.le_refl _)
 h _ vs 0 ds _ rfl x hn (Heap.get?_push_size _ rfl) (r.ext x) ((r.shut hn).ext x)
theorem op_slF {vl vh vt:Value} {lo hi st:D} {S:Addr} {xs:List D} (rv:Seq1 W s.heap v (.list xs)) (rl:Rep W s.heap vl lo) (rh:Rep W s.heap vh hi) (rt:Rep W s.heap vt st) (e:slD (.list xs) lo hi st=some d)
  (hS:s.heap.get? S=some { cls:= .type "slice", data:= .fields #[vl,vh,vt] }) (h:GivesF s W d Q) {value slice:Expr} (hs : ∃ ops,subscripted slice false v (.ref S)=operate ops (getItem v (.ref S))) :
  wpAny (model prog w) A (subscriptTail value slice v (.ref S)) Q E s:=by
 obtain ⟨ops,hs⟩:=hs
 refine bindE e fun l el e=>bindE e fun hh eh e=>bindE e fun t et e=> ?_
 obtain ⟨hc,rfl⟩:=iteE e
 refine ea33 rv.list fun a vs n Z3 ea ra=> ?_;subst Z3
 exact tail_any (isList_of ea).typeIs slot_list_getitem.lookup (sl_li ea hS (isPart_of rl el) (isPart_of rh eh) (isPart_of rt et) hc.1 (ra.length▸hc.2) (h.push (ra.pick _ _ _))) hs
theorem op_mulF {xs:List D} {b:Int} (rv:Rep W s.heap v (.list xs)) (ru:Rep W s.heap u (.int b)) (e:binD .Mult (.list xs) (.int b)=some d) (h:GivesF s W d Q) :
  wpAny (model prog w) A (binaryOp .Mult v u) Q E s:=by
 refine ea02 (iteE e) fun hc Z1=> ?_;subst Z1
 apply rv.list_el;intro a vs n Z ea ra;apply ru.int_el;intro t'
 exact mul_li ea (ra.length▸hc) (h.push (ra.rep _))
end
section
variable {prog:Program} {w:World} {T:Heap->Prop} {V:Value->Prop} {F:Str->Option Addr} {Φ B:Fns} {k:Nat}
noncomputable def isLst:ME->Bool
 | .list _=>true
 | _=>false
noncomputable def isOw:ME->Bool
 | .own _=>true
 | _=>false
noncomputable def isFresh:ME->Bool
 | .list _=>true
 | .bin op a _=>op == .Mult&&isLst a
 | .sl a _ _ _=>isOw a
 | _=>false
theorem isFresh_el {m:ME} {P:ME->Prop} (h:isFresh m=true) (k1 : ∀ es,P (.list es)) (k2 : ∀ es b,P (.bin .Mult (.list es) b)) (k3 : ∀ x lo hi t,P (.sl (.own x) lo hi t)):P m:=by
 rcases m with _|_|_|⟨op,a,b⟩|_|_|_|_|_|_|_|_|_|⟨a,lo,hi,t⟩|es|_|_|_|_|_|_
 case list=>exact k1 es
 case bin=>
  cases eqB (andB h).1
  rcases a with _|_|_|_|_|_|_|_|_|_|_|_|_|_|es|_|_|_|_|_|_
  case list=>exact k2 es b
  all_goals exact ff h
 case sl=>
  rcases a with _|_|x|_|_|_|_|_|_|_|_|_|_|_|_|_|_|_|_|_|_
  case own=>exact k3 x lo hi t
  all_goals exact ff h
 all_goals exact ff h
theorem sf (C:Ctx prog w T V F Φ B k) {m:ME} (hf:isFresh m=true) {sc:Sc} {e:Expr} {A:Around} {env:Env} {W:List Addr} {ρ:Loc} {s:Shared} {d:D} {Q:Value->Shared->Prop} {E:Value->Shared->Prop}
  (hm:mt m sc e=true) (rm:Room A k) (st:St T V W env sc ρ s) (he:ev Φ B m ρ=some d) (h:GivesF s W d Q):wpAny (model prog w) A (eval e env) Q E s:=by
 revert hm he
 apply isFresh_el hf
 ·intro es hm he
  apply onList_el hm;clear hm;intro xs Z hm
  refine and2 hm fun hm hz=> ?_
  have hz:=of_decide_eq_true hz
  refine ea12 (Option.map_eq_some_iff.mp he) fun ds hds Z2=> ?_;subst Z2
  refine wpAny_List ((all_sl C es).1 sc _ A env W ρ s ds _ _ E hm rm st hds fun vs s₁ x₁ r₁=>⟨?_,(h.ext x₁).push r₁⟩)
  refine rwl r₁.length (rwl sizeLine_eq (rwl (mtL_len hm hds) ?_));exact t2 hz rfl
 ·intro es b hm he
  apply onBinOp_el hm;clear hm;intro l o r Z hm
  refine and3 hm fun ho hma hmb=> ?_
  clear hm;obtain rfl:=(eqB ho).symm
  refine bindE he fun x hx he=>bindE he fun y hy he=> ?_
  refine ea12 (Option.map_eq_some_iff.mp hx) fun ds hds Z2=> ?_;subst Z2
  rcases y with _|_|i|_|_|_|_
  case int=>
   refine wpAny_BinOp ((all_se C (.list es)).1 sc _ A env W ρ s (.list ds) _ E hma rm st hx fun v s₁ x₁ r₁=> ?_)
   refine (all_se C b).1 sc _ A env W ρ s₁ (.int i) _ E hmb rm (st.ext C.top x₁) hy fun u s₂ x₂ r₂=> ?_
   exact op_mulF (r₁.ext x₂) r₂ he (h.ext (x₁.trans x₂))
  all_goals exact nnE he
 ·intro x lo hi t hm he
  apply onSubscript_el hm;clear hm;intro v i Z hm
  apply onSlice_el hm;clear hm;intro lw up tt Z hm
  refine and4 hm fun ma ml mh mst=> ?_
  refine bindE he fun xx hx he=>bindE he fun l hl he=>bindE he fun u hu he=>bindE he fun z hz he=> ?_
  refine ea12 (lk_o hx) fun ds Z Z2=> ?_;subst Z2
  refine Subscript_ (se_own1 C (all_se C (.own x)).1 ma rm st hx fun v s₁ x₁ r₁=> ?_)
  refine wpAny_Slice (part_of C (all_se C lo).1 ml rm (st.ext C.top x₁) hl fun vl s₂ x₂ r₂=> ?_)
  refine part_of C (all_se C hi).1 mh rm (st.ext C.top (x₁.trans x₂)) hu fun vu s₃ x₃ r₃=> ?_
  refine part_of C (all_se C t).1 mst rm (st.ext C.top ((x₁.trans x₂).trans x₃)) hz fun vt s₄ x₄ r₄=> ?_
  have y:=Ext.push' s₄ { cls:= .type "slice", data:= .fields #[vl,vu,vt] }
  exact op_slF (r₁.keeps (((x₂.trans x₃).trans x₄).trans y).keep) (r₂.ext ((x₃.trans x₄).trans y)) (r₃.ext (x₄.trans y)) (r₄.ext y) he (Heap.get?_push_size _ rfl) (h.ext ((((x₁.trans x₂).trans x₃).trans x₄).trans y)) (sub_ops _ _ _)
end
inductive Src where
 | seq
 | rng
 | gen (f:Str)
mutual
inductive MS where
 | asg (x:Str) (e:ME)
 | asgO (x:Str) (e:ME)
 | asgI (x:Str) (c e:ME)
 | tup (xs:List (Str×Bool×ME))
 | unp (x y:Str) (e:ME)
 | its (x:Str) (i1 i2 e1 e2:ME)
 | app (x:Str) (e:ME)
 | ins (x:Str) (i e:ME)
 | aug (x:Str) (op:Operator) (e:ME)
 | ite (c:ME) (a b:MSs)
 | ret (e:ME)
 | retO (x:Str)
 | retI (c:ME) (x:Str) (e:ME)
 | fr (tg:Tg) (src:Src) (e:ME) (body:MSs)
 | wh (n:Nat) (c:ME) (body:MSs)
inductive MSs where
 | nil
 | cons (s:MS) (r:MSs)
end
noncomputable abbrev Gens:=Str->D->Option (List D)
noncomputable def setO (ρ:Loc) (x:Str) (ds:List D):Loc:=upd (noOwn ρ) x (.o ds)
noncomputable def lstO {β:Type} (o:Option D) (f:List D->Option β):Option β:=match o with|some (.list ds)=>f ds|_=>none
theorem lstE {β:Type} {o:Option D} {f:List D->Option β} {r:β} {P:Prop} (h:lstO o f=some r) (k : ∀ ds,o=some (.list ds)->f ds=some r->P):P:=by
 rcases o with _|d
 ·exact nnE h
 ·rcases d with _|_|_|_|ds|_|_
  case list=>exact k ds rfl h
  all_goals exact nnE h
noncomputable def bdOf:Bool->D->Option Bd
 | true=>fun d=>lstO (some d) fun ds=>some (.o ds)
 | false=>fun d=>some (.d d)
noncomputable def evT (Φ B:Fns):List (Str×Bool×ME)->Loc->Option (List (Str×Bd))
 | [],_=>some []
 | (x,o,e)::r,ρ=>(ev Φ B e ρ).bind fun d=>(bdOf o d).bind fun b=>(evT Φ B r ρ).map ((x,b) :: ·)
noncomputable abbrev Res:=Option (Loc×Option D)
noncomputable def runFor (tg:Tg) (f:Loc->Res):List D->Loc->Res
 | [],ρ=>some (ρ,none)
 | d::r,ρ=>(bindT tg d ρ).bind fun ρ₁=>(f ρ₁).bind fun p=>match p.2 with
  | none=>runFor tg f r p.1
  | some v=>some (p.1,some v)
noncomputable def runWh (c:Loc->Option Bool) (f:Loc->Res):Nat->Loc->Res
 | 0,_=>none
 | n+1,ρ=>(c ρ).bind fun t=>if t then (f ρ).bind fun p=>match p.2 with
  | none=>runWh c f n p.1
  | some v=>some (p.1,some v) else some (ρ,none)
noncomputable def srcS (Γ:Gens) (src:Src) (d:D):Option (List D):=match src with
 | .seq=>srcD false d
 | .rng=>srcD true d
 | .gen f=>Γ f d
noncomputable def intO {β:Type} (o:Option D) (f:Int->Option β):Option β:=match o with|some (.int i)=>f i|_=>none
noncomputable def ownO {β:Type} (b:Bd) (f:List D->Option β):Option β:=match b with | .o ds=>f ds|_=>none
noncomputable def numO {β:Type} (b:Bd) (f:Int->Option β):Option β:=match b with | .d d=>intO (some d) f|_=>none
noncomputable def twoO {β:Type} (o:Option (List D)) (f:D->D->Option β):Option β:=match o with|some [a,b]=>f a b|_=>none
theorem intE {β:Type} {o:Option D} {f:Int->Option β} {r:β} {P:Prop} (h:intO o f=some r) (k : ∀ ds,o=some (.int ds)->f ds=some r->P):P:=by
 rcases o with _|d
 ·exact nnE h
 ·rcases d with _|_|ds|_|_|_|_
  case int=>exact k ds rfl h
  all_goals exact nnE h
theorem ownE {β:Type} {o:Bd} {f:List D->Option β} {r:β} {P:Prop} (h:ownO o f=some r) (k : ∀ ds,o = .o ds->f ds=some r->P):P:=by
 rcases o with _|_|ds|_
 case o=>exact k ds rfl h
 all_goals exact nnE h
theorem numE {β:Type} {o:Bd} {f:Int->Option β} {r:β} {P:Prop} (h:numO o f=some r) (k : ∀ i,o = .d (.int i)->f i=some r->P):P:=by
 rcases o with _|d|_|_
 case d=>exact intE h fun i e h=>k i (Option.some.inj e▸rfl) h
 all_goals exact nnE h
theorem twoE {β:Type} {o:Option (List D)} {f:D->D->Option β} {r:β} {P:Prop} (h:twoO o f=some r) (k : ∀ a b,o=some [a,b]->f a b=some r->P):P:=match o,h,k with|some [a,b],h,k=>k a b rfl h
theorem lstI {β:Type} {o:Option D} {f:List D->Option β} {r:β} {ds:List D} (h:o=some (.list ds)) (k:f ds=some r):lstO o f=some r:=by refine rwl h ?_;exact k
theorem intI {β:Type} {o:Option D} {f:Int->Option β} {r:β} {i:Int} (h:o=some (.int i)) (k:f i=some r):intO o f=some r:=by refine rwl h ?_;exact k
theorem ownI {β:Type} {o:Bd} {f:List D->Option β} {r:β} {ds:List D} (h:o = .o ds) (k:f ds=some r):ownO o f=some r:=by refine rwl h ?_;exact k
theorem numI {β:Type} {o:Bd} {f:Int->Option β} {r:β} {i:Int} (h:o = .d (.int i)) (k:f i=some r):numO o f=some r:=by refine rwl h ?_;exact k
theorem twoI {β:Type} {o:Option (List D)} {f:D->D->Option β} {r:β} {a b:D} (h:o=some [a,b]) (k:f a b=some r):twoO o f=some r:=by refine rwl h ?_;exact k
theorem lstR {β:Type} (ds:List D) (f:List D->Option β):lstO (some (.list ds)) f=f ds:=rfl
theorem intR {β:Type} (i:Int) (f:Int->Option β):intO (some (.int i)) f=f i:=rfl
theorem ownR {β:Type} (ds:List D) (f:List D->Option β):ownO (.o ds) f=f ds:=rfl
theorem numR {β:Type} (i:Int) (f:Int->Option β):numO (.d (.int i)) f=f i:=rfl
theorem twoR {β:Type} (a b:D) (f:D->D->Option β):twoO (some [a,b]) f=f a b:=rfl
theorem srcA (Γ:Gens) (d:D):srcS Γ .seq d=items? d:=rfl
theorem srcC (Γ:Gens) (n:Int):srcS Γ .rng (.int n)=if 0<=n/\n<=1000 then some (rngD n) else none:=rfl
theorem srcG (Γ:Gens) (f:Str) (d:D):srcS Γ (.gen f) d=Γ f d:=rfl
theorem bdT (ds:List D):bdOf true (.list ds)=some (.o ds):=rfl
theorem bdF (d:D):bdOf false d=some (.d d):=rfl
mutual
noncomputable def ex (Φ B:Fns) (Γ:Gens):MS->Loc->Res
 | .asg x e=>fun ρ=>(ev Φ B e ρ).map fun d=>(upd ρ x (.d d),none)
 | .asgO x e=>fun ρ=>lstO (ev Φ B e ρ) fun ds=>some (upd ρ x (.o ds),none)
 | .asgI x c e=>fun ρ=>((ev Φ B c ρ).bind truD).bind fun t=>if t then ownO (lk ρ x) fun ds=>some (upd ρ x (.o ds),none) else lstO (ev Φ B e ρ) fun ds=>some (upd ρ x (.o ds),none)
 | .tup xs=>fun ρ=>(evT Φ B xs ρ).map fun bs=>(bs.foldl (fun ρ p=>upd ρ p.1 p.2) ρ,none)
 | .unp x y e=>fun ρ=>(ev Φ B e ρ).bind fun d=>twoO (items? d) fun a b=>some (upd (upd ρ x (.d a)) y (.d b),none)
 | .its x i1 i2 e1 e2=>fun ρ=>(ev Φ B e1 ρ).bind fun v1=>(ev Φ B e2 ρ).bind fun v2=>ownO (lk ρ x) fun ds=>intO (ev Φ B i1 ρ) fun i=>
   if 0<=i/\i<ds.length/\ds.length<=1000 then intO (ev Φ B i2 (setO ρ x (ds.set i.toNat v1))) fun j=>if 0<=j/\j<ds.length then some (setO ρ x ((ds.set i.toNat v1).set j.toNat v2),none) else none
   else none
 | .app x e=>fun ρ=>(ev Φ B e ρ).bind fun d=>ownO (lk ρ x) fun ds=>if ds.length<=szL then some (setO ρ x (ds++[d]),none) else none
 | .ins x i e=>fun ρ=>(ev Φ B i ρ).bind fun i=>(ev Φ B e ρ).bind fun d=>ownO (lk ρ x) fun ds=>intO (some i) fun i=>if 0<=i/\i<=ds.length/\ds.length<=1000 then some (setO ρ x (ds.take i.toNat++d::ds.drop i.toNat),none) else none
 | .aug x op e=>fun ρ=>numO (lk ρ x) fun a=>intO (ev Φ B e ρ) fun b=>(match op with | .Add=>some (a+b) | .Sub=>some (a-b)|_=>none).map fun c=>(upd ρ x (.d (.int c)),none)
 | .ite c a b=>fun ρ=>((ev Φ B c ρ).bind truD).bind fun t=>if t then exs Φ B Γ a ρ else exs Φ B Γ b ρ
 | .ret e=>fun ρ=>(ev Φ B e ρ).map fun d=>(ρ,some d)
 | .retO x=>fun ρ=>ownO (lk ρ x) fun ds=>some (ρ,some (.list ds))
 | .retI c x e=>fun ρ=>((ev Φ B c ρ).bind truD).bind fun t=>if t then ownO (lk ρ x) fun ds=>some (ρ,some (.list ds)) else (ev Φ B e ρ).map fun d=>(ρ,some d)
 | .fr tg src e body=>fun ρ=>(ev Φ B e ρ).bind fun d=>(srcS Γ src d).bind fun xs=>
   runFor tg (exs Φ B Γ body) xs ρ
 | .wh n c body=>fun ρ=>runWh (fun ρ=>(ev Φ B c ρ).bind truD) (exs Φ B Γ body) n ρ
noncomputable def exs (Φ B:Fns) (Γ:Gens):MSs->Loc->Res
 | .nil=>fun ρ=>some (ρ,none)
 | .cons s r=>fun ρ=>(ex Φ B Γ s ρ).bind fun p=>match p.2 with
  | none=>exs Φ B Γ r p.1
  | some v=>some (p.1,some v)
end
noncomputable def okS (sc:Sc) (x:Str):Bool:=okN sc x&&(sc.lookup x==some .local || sc.lookup x==some .cell)
noncomputable def notTup (e:Expr):Bool:= ![25,8,9,10].contains e.ctorIdx
noncomputable def onC {α:Type} (l:List α) (f:α->List α->Bool):Bool:=match l with|a::r=>f a r|[]=>false
theorem onC_el {α:Type} {l:List α} {f:α->List α->Bool} {P:List α->Prop} (h:onC l f=true) (k : ∀ a r,f a r=true->P (a::r)):P l:=match l,h with|a::r,h=>k a r h
noncomputable def onSome {α:Type} (o:Option α) (f:α->Bool):Bool:=match o with|some a=>f a|none=>false
theorem onSome_el {α:Type} {o:Option α} {f:α->Bool} {P:Option α->Prop} (h:onSome o f=true) (k : ∀ a,f a=true->P (some a)):P o:=match o,h with|some a,h=>k a h
noncomputable def mtSrc (sc:Sc) (src:Src) (it:Expr) (f:Expr->Bool):Bool:=match src with
 | .seq=>f it
 | .rng=>onRng sc it f
 | .gen n=>onCall it fun c xs ks Z=>onName c fun g Z=>on1 xs fun y=>ks.isEmpty&&g==n && !(n==("__debug__" : Str))&&sc.lookup g==some .globalImplicit&&f y&&notStar y
noncomputable def mtT (sc:Sc):List (Str×Bool×ME)->List Expr->List Expr->Bool
 | []=>fun ts vs=>ts.isEmpty&&vs.isEmpty
 | (x,o,e)::r=>fun ts vs=>onC ts fun t ts=>onC vs fun v vs=>onName t fun y Z=>x==y&&okS sc x&&mt e sc v&&notStar v&&(!o || isFresh e)&&mtT sc r ts vs
mutual
noncomputable def mtS:MS->Sc->Stmt->Bool
 | .asg x e=>fun sc s=>onSAssign s fun ts v Z=>on1 ts fun t=>onName t fun y Z=>x==y&&okS sc x&&mt e sc v
 | .asgO x e=>fun sc s=>onSAssign s fun ts v Z=>on1 ts fun t=>onName t fun y Z=>x==y&&okS sc x&&mt e sc v&&isFresh e
 | .asgI x c e=>fun sc s=>onSAssign s fun ts v Z=>on1 ts fun t=>onName t fun y Z=>onIfExp v fun t z o Z=>onName z fun z Z=>x==y&&x==z&&okS sc x&&mt c sc t&&mt e sc o&&isFresh e&&notTup o
 | .tup xs=>fun sc s=>onSAssign s fun ts v Z=>on1 ts fun t=>onTuple t fun ts Z Z=>onTuple v fun vs Z Z=>mtT sc xs ts vs&&decide (xs.map (·.1)).Nodup&&decide (xs.length<=3) && !(vs.all (constantsAlone 8))
 | .unp x y e=>fun sc s=>onSAssign s fun ts v Z=>on1 ts fun t=>onTuple t fun l Z Z=>on2 l fun p q=>onName p fun a Z=>onName q fun b Z=>x==a&&y==b&&okS sc x&&okS sc y&&mt e sc v&&notTup v
 | .its x i1 i2 e1 e2=>fun sc s=>onSAssign s fun ts w Z=>on1 ts fun t=>onTuple t fun l Z Z=>on2 l fun p q=>onSubscript p fun a i Z=>onName a fun a Z=>onSubscript q fun b j Z=>onName b fun b Z=>onTuple w fun l Z Z=>on2 l fun u v=>
   x==a&&x==b&&okS sc x&&mt i1 sc i&&mt i2 sc j&&(mt e1 sc u&&mt e2 sc v&&notStar u&&notStar v)
 | .app x e=>fun sc s=>onSExpr s fun c Z=>onCall c fun f as ks p=>onAttribute f fun o n ap=>onName o fun y Z=>on1 as fun v=>ks.isEmpty&&x==y&&okN sc x&&n==("append" : Str)&&mt e sc v&&notStar v&&ap.endLine==p.line
 | .ins x i e=>fun sc s=>onSExpr s fun c Z=>onCall c fun f as ks p=>onAttribute f fun o n ap=>onName o fun y Z=>on2 as fun j v=>(ks.isEmpty&&x==y&&okN sc x&&n==("insert" : Str)&&mt i sc j&&mt e sc v)&&notStar j&&notStar v&&ap.endLine==p.line
 | .aug x op e=>fun sc s=>onSAugAssign s fun t o v Z=>onName t fun y Z=>x==y&&okS sc x&&o==op&&mt e sc v
 | .ite c a b=>fun sc s=>onSIf s fun t x y Z=>mt c sc t&&mtSs a sc x&&mtSs b sc y
 | .ret e=>fun sc s=>onSReturn s fun o Z=>onSome o fun v=>mt e sc v
 | .retO x=>fun sc s=>onSReturn s fun o Z=>onSome o fun v=>onName v fun y Z=>x==y&&okN sc x
 | .retI c x e=>fun sc s=>onSReturn s fun o Z=>onSome o fun v=>onIfExp v fun t b o Z=>onName b fun y Z=>x==y&&okN sc x&&mt c sc t&&mt e sc o
 | .fr tg src e body=>fun sc s=>onSFor s fun t it b el Z=>el.isEmpty&&tgOk tg t&&(tgNames tg).all (okS sc)&&itOk it&&mtSs body sc b&&mtSrc sc src it (mt e sc)
 | .wh _ c body=>fun sc s=>onSWhile s fun t b el Z=>el.isEmpty&&mt c sc t&&mtSs body sc b
noncomputable def mtSs:MSs->Sc->List Stmt->Bool
 | .nil=>fun Z ss=>ss.isEmpty
 | .cons s r=>fun sc ss=>match ss with|t::ts=>mtS s sc t&&mtSs r sc ts|[]=>false
end
structure Frm (T:Heap->Prop) (V:Value->Prop) (W₀ W:List Addr) (env:Env) (sc:Sc) (ρ:Loc) (s₀ s:Shared):Prop where
 st:St T V W env sc ρ s
 t0:T s₀.heap/\Shut W₀ s₀.heap
 chg:Chg (fun a=>s₀.heap.get? a=none) (fun j=>s₀.gens[j]? = none) s₀ s
 own : ∀ a∈W,a∈W₀\/s₀.heap.get? a=none
 sub : ∀ a∈W₀,a∈W
 slot : ∀ a,Slots env a->s₀.heap.get? a=none
 of : ∀ y ds,okN sc y=true->lk ρ y = .o ds -> ∃ a vs n,Holds env s.heap y (.ref a)/\a∈W/\s₀.heap.get? a=none/\s.heap.get? a=some (lObj vs n)/\RepL W s.heap vs ds
structure Mv (env:Env) (W:List Addr) (s:Shared) (W':List Addr) (s':Shared):Prop where
 chg:Chg (fun a=>Slots env a\/a∈W\/s.heap.get? a=none) (fun j=>s.gens[j]? = none) s s'
 own : ∀ a∈W',a∈W\/s.heap.get? a=none
 live : ∀ a,s'.heap.get? a=none->s.heap.get? a=none
 sub : ∀ a∈W,a∈W'
theorem Mv.refl (env:Env) (W:List Addr) (s:Shared):Mv env W s W s:=⟨Chg.refl s,fun Z h=> .inl h,fun Z h=>h,fun Z h=>h⟩
theorem Mv.trans {env:Env} {W W' W'':List Addr} {s s' s'':Shared} (x:Mv env W s W' s') (y:Mv env W' s' W'' s''):Mv env W s W'' s'':=by
 refine ⟨x.chg.trans (y.chg.mono (fun a h=> ?_) fun j h=> ?_),fun a h=> ?_,fun a h=>x.live a (y.live a h),fun a h=>y.sub a (x.sub a h)⟩
 ·rcases h with h|h|h
  ·exact .inl h
  ·exact (x.own a h).elim (fun z=> .inr (.inl z)) fun z=> .inr (.inr z)
  ·exact .inr (.inr (x.live a h))
 ·rcases e:s.gens[j]? with _|o
  ·rfl
  ·have:=x.chg.gen j o (fun z=>by exact nomatch e.symm.trans z) e;exact nomatch h.symm.trans this
 ·rcases y.own a h with h|h
  ·exact x.own a h
  ·exact .inr (x.live a h)
theorem Ext.mv {env:Env} {W:List Addr} {s s':Shared} (x:Ext s s'):Mv env W s W s':=⟨x.chg,fun Z h=> .inl h,fun Z h=>x.none h,fun Z h=>h⟩
section
variable {prog:Program} {w:World} {T:Heap->Prop} {V:Value->Prop} {F:Str->Option Addr} {Φ B:Fns} {k:Nat} {W₀ W:List Addr} {env:Env} {sc:Sc} {ρ:Loc} {s₀ s s':Shared} {A:Around} {E:Value->Shared->Prop}
theorem Frm.ext (C:TopS T F) (x:Frm T V W₀ W env sc ρ s₀ s) (y:Ext s s'):Frm T V W₀ W env sc ρ s₀ s':=
 ⟨x.st.ext C y,x.t0,x.chg.trans y.chg,x.own,x.sub,x.slot,fun z ds hz e=>ea35 (x.of z ds hz e) fun a vs n h1 h2 h3 h4 h5=>⟨a,vs,n,h1.keeps y.keep,h2,h3,y.keep _ _ h4,h5.ext y⟩⟩
theorem Frm.tof (C:TopS T F) (x:Frm T V W₀ W env sc ρ s₀ s) {P:Addr->Prop} {G:Nat->Prop} (c:Chg P G s s') (hP : ∀ a,P a->s₀.heap.get? a=none):T s'.heap:=
 C.mono _ _ x.t0.1 fun b o e=>c.keep b o (fun q=>by rw [hP b q] at e;exact nnE e) (x.chg.keep b o (fun q=>by exact nomatch q.symm.trans e) e)
theorem Frm.wslot (x:Frm T V W₀ W env sc ρ s₀ s) : ∀ a∈W,¬ Slots env a:=x.st.fr.shut x.st.sh
theorem okS_hx {x:Str} (h:okS sc x=true):sc.lookup x=some .local\/sc.lookup x=some .cell:=
 (Bool.or_eq_true_iff.mp (andB h).2).imp eqB eqB
theorem upd_v {x y:Str} {b:Bd} {u:Value} (hb : ∀ u,b ≠ .v u) (h:lk (upd ρ x b) y = .v u):lk ρ y = .v u:=by
 rw [lk_upd] at h
 split at h
 ·exact absurd h (hb u)
 ·exact h
theorem noOwn_v {y:Str} {u:Value} (h:lk (noOwn ρ) y = .v u):lk ρ y = .v u:=by
 rw [lk_noOwn] at h
 rcases q:lk ρ y with _|_|_|_<;>rw [q] at h<;>cases h;rfl
theorem noOwn_weak (ρ:Loc) : ∀ x,lk (noOwn ρ) x = .un\/lk (noOwn ρ) x=lk ρ x:=fun x=>by
 refine rwl (lk_noOwn _ _) ?_
 rcases lk ρ x with _|_|_|_
 ·exact .inl rfl
 ·exact .inr rfl
 ·exact .inl rfl
 ·exact .inr rfl
theorem St.weaken {ρ':Loc} (x:St T V W env sc ρ s) (h : ∀ x,lk ρ' x = .un\/lk ρ' x=lk ρ x):St T V W env sc ρ' s:=
 ⟨x.es,x.sh,x.tp,x.br.weaken h,x.fr,fun y u e=>x.tv y u (by rcases h y with q|q<;>rw [q] at e<;>first|cases e|exact e)⟩
theorem Frm.weaken {ρ':Loc} (x:Frm T V W₀ W env sc ρ s₀ s) (h : ∀ x,lk ρ' x = .un\/lk ρ' x=lk ρ x):Frm T V W₀ W env sc ρ' s₀ s:=
 ⟨x.st.weaken h,x.t0,x.chg,x.own,x.sub,x.slot,fun y ds hy e=>by
  rcases h y with q|q<;>rw [q] at e
  ·exact nomatch e
  ·exact x.of y ds hy e⟩
theorem store_nm (C:TopS T F) {x:Str} {v:Value} {d:D} {Q:Unit->Shared->Prop} (f:Frm T V W₀ W env sc ρ s₀ s) (hx:okS sc x=true) (r:Rep W s.heap v d)
  (h : ∀ s',Frm T V W₀ W env sc (upd ρ x (.d d)) s₀ s'->Mv env W s W s'->Chg (Slots env) (fun Z=>False) s s'->Q () s'):wpAny (model prog w) A (storeName env x v) Q E s:=by
 refine store_ok f.st.es f.st.fr (okS_hx hx) fun h' tk fr' hh hh' c hsl Z=> ?_
 have c':Chg (Slots env) (fun Z=>False) s { s with heap:=h',toks:=tk }:=c.mono (fun a ha=>by subst ha;exact hsl) fun Z h=>h
 have bl:Blind W s.heap (Slots env):=f.st.fr.blind
 have hW:=f.wslot
 refine h _ ⟨⟨f.st.es,f.st.sh.chg c' hW,f.tof C c' f.slot,f.st.br.store hh (r.chg c' bl) hh' (fun Z Z q=>q.chg c' bl) (fun Z Z q=>q.chg c' bl) fun a vs n ha e=>c'.keep a _ (hW a ha) e,fr',fun y u e=>f.st.tv y u (upd_v (fun Z q=>by exact nomatch q) e)⟩,f.t0,f.chg.trans (c'.mono f.slot fun Z q=>q.elim),f.own,f.sub,f.slot,fun y es hy e=> ?_⟩
  ⟨c'.mono (fun Z q=> .inl q) fun Z q=>q.elim,fun Z q=> .inl q,fun a ha=> ?_,fun Z q=>q⟩ c'
 ·rw [lk_upd] at e
  split at e
  ·exact nomatch e
  ·rename_i q
   refine ea35 (f.of y es hy e) fun b us m h1 h2 h3 h4 h5=> ?_
   exact ⟨b,us,m,hh' y _ (fun z=>q (by refine rwl z ?_;exact beq_self_eq_true _)) h1,h2,h3,c'.keep b _ (hW b h2) h4,h5.chg c' bl⟩
 rcases e:s.heap.get? a with _|o
 ·rfl
 ·by_cases q:Slots env a
  ·rcases q with rfl|⟨y,hy⟩
   ·refine ea42 fr'.ns fun m o' es ep g Z=> ?_;rw [show h'.get? env.locals=none from ha] at g;exact nnE g
   ·refine ea22 (fr'.cells y a hy) fun v o' g Z=> ?_;rw [show h'.get? a=none from ha] at g;exact nnE g
  ·rw [c'.keep a o q e] at ha;exact nomatch ha
theorem store_nmO (C:TopS T F) {x:Str} {a:Addr} {vs:List Value} {n:Nat} {ds:List D} {Q:Unit->Shared->Prop} (f:Frm T V W₀ W env sc ρ s₀ s) (hx:okS sc x=true) (ha:a∈W) (hf0:s₀.heap.get? a=none) (hg:s.heap.get? a=some (lObj vs n)) (r:RepL W s.heap vs ds)
  (h : ∀ s',Frm T V W₀ W env sc (upd ρ x (.o ds)) s₀ s'->Mv env W s W s'->Chg (Slots env) (fun Z=>False) s s'->Q () s'):wpAny (model prog w) A (storeName env x (.ref a)) Q E s:=by
 refine store_ok f.st.es f.st.fr (okS_hx hx) fun h' tk fr' hh hh' c hsl Z=> ?_
 have c':Chg (Slots env) (fun Z=>False) s { s with heap:=h',toks:=tk }:=c.mono (fun a ha=>by subst ha;exact hsl) fun Z h=>h
 have bl:Blind W s.heap (Slots env):=f.st.fr.blind
 have hW:=f.wslot
 refine h _ ⟨⟨f.st.es,f.st.sh.chg c' hW,f.tof C c' f.slot,f.st.br.storeO hh ha (c'.keep a _ (hW a ha) hg) (r.chg c' bl) hh' (fun Z Z q=>q.chg c' bl) (fun Z Z q=>q.chg c' bl) fun y es a vs n hy hl ha e=>c'.keep a _ (hW a ha) e,fr',fun y u e=>f.st.tv y u (upd_v (fun Z q=>by cases q) e)⟩,f.t0,f.chg.trans (c'.mono f.slot fun Z q=>q.elim),f.own,f.sub,f.slot,fun y es hy e=> ?_⟩
  ⟨c'.mono (fun Z q=> .inl q) fun Z q=>q.elim,fun Z q=> .inl q,fun a ha=> ?_,fun Z q=>q⟩ c'
 ·rw [lk_upd] at e
  split at e
  ·rename_i q
   cases e
   refine lwr (beq_iff_eq.mp q) ?_
   exact ⟨a,vs,n,hh,ha,hf0,c'.keep a _ (hW a ha) hg,r.chg c' bl⟩
  ·rename_i q
   refine ea35 (f.of y es hy e) fun b us m h1 h2 h3 h4 h5=> ?_
   exact ⟨b,us,m,hh' y _ (fun z=>q (by refine rwl z ?_;exact beq_self_eq_true _)) h1,h2,h3,c'.keep b _ (hW b h2) h4,h5.chg c' bl⟩
 rcases e:s.heap.get? a with _|o
 ·rfl
 ·by_cases q:Slots env a
  ·rcases q with rfl|⟨y,hy⟩
   ·refine ea42 fr'.ns fun m o' es ep g Z=> ?_;rw [show h'.get? env.locals=none from ha] at g;exact nnE g
   ·refine ea22 (fr'.cells y a hy) fun v o' g Z=> ?_;rw [show h'.get? a=none from ha] at g;exact nnE g
  ·rw [c'.keep a o q e] at ha;exact nomatch ha
theorem Frm.grow (C:TopS T F) {a:Addr} {vs:List Value} {n:Nat} (f:Frm T V W₀ W env sc ρ s₀ s) (x:Ext s s') (hn:s.heap.get? a=none) (hg:s'.heap.get? a=some (lObj vs n)) :
  Frm T V W₀ (a::W) env sc ρ s₀ s'/\Mv env W s (a::W) s':=by
 have h0:s₀.heap.get? a=none:=by
  rcases e:s₀.heap.get? a with _|o
  ·rfl
  ·rw [f.chg.keep a o (fun q=>by exact nomatch q.symm.trans e) e] at hn;exact nomatch hn
 have st':=f.st.ext C x
 refine ⟨⟨⟨f.st.es,fun b hb=> ?_,st'.tp,⟨fun y d hy e=> ?_,fun y ds hy e=> ?_,st'.br.v⟩,st'.fr,f.st.tv⟩,f.t0,f.chg.trans x.chg,fun b hb=> ?_,fun b hb=>List.mem_cons_of_mem _ (f.sub b hb),f.slot,fun y ds hy e=> ?_⟩,x.chg,fun b hb=> ?_,fun b hb=>x.none hb,fun b hb=>List.mem_cons_of_mem _ hb⟩
 ·rcases List.mem_cons.mp hb with rfl|hb
  ·exact ⟨_,_,hg⟩
  ·exact st'.sh b hb
 ·refine ea12 (f.st.br.d y d hy e) fun v h1 h2=> ?_
  exact ⟨v,h1.keeps x.keep,(h2.shut hn).ext x⟩
 ·refine ea34 (f.st.br.o y ds hy e) fun b us m h1 h2 h3 h4=> ?_
  exact ⟨b,us,m,h1.keeps x.keep,List.mem_cons_of_mem _ h2,x.keep _ _ h3,(h4.shut hn).ext x⟩
 ·rcases List.mem_cons.mp hb with rfl|hb
  ·exact .inr h0
  ·exact f.own b hb
 ·refine ea35 (f.of y ds hy e) fun b us m h1 h2 h3 h4 h5=> ?_
  exact ⟨b,us,m,h1.keeps x.keep,List.mem_cons_of_mem _ h2,h3,x.keep _ _ h4,(h5.shut hn).ext x⟩
 ·rcases List.mem_cons.mp hb with rfl|hb
  ·exact .inr hn
  ·exact .inl hb
theorem Frm.change (C:TopS T F) {x:Str} {a:Addr} {vs':List Value} {n':Nat} {ds':List D} {h':Heap} {tk:Nat} (f:Frm T V W₀ W env sc ρ s₀ s) (hx:Holds env s.heap x (.ref a)) (ha:a∈W) (hfresh:s₀.heap.get? a=none)
  (hs:Heap.SameBut a s.heap h') (hg:h'.get? a=some (lObj vs' n')) (r:RepL W s.heap vs' ds') :
  Frm T V W₀ W env sc (setO ρ x ds') s₀ { s with heap:=h',toks:=tk }/\Mv env W s W { s with heap:=h',toks:=tk }:=by
 have c:Chg (·= a) (fun Z=>False) s { s with heap:=h',toks:=tk }:=Chg.one tk hs
 have bl:Blind W s.heap (·= a):=fun b hb=>by subst hb;exact .inl ha
 have ns : ¬ Slots env a:=f.wslot a ha
 have ks : ∀ b o,Slots env b->s.heap.get? b=some o->h'.get? b=some o:=fun b o hb e=>c.keep b o (fun q=>by subst q;exact ns hb) e
 have kh : ∀ x v,Holds env s.heap x v->Holds env h' x v:=fun x v z=>by
  rcases z with ⟨a,m,hn,hm⟩|⟨a,cc,hc,o,ho,hd⟩
  ·exact .inl ⟨a,m,hn.at' fun o e=>ks _ o (.inl rfl) e,hm⟩
  ·exact .inr ⟨a,cc,hc,o,ks _ o (.inr ⟨x,hc⟩) ho,hd⟩
 refine ⟨⟨⟨f.st.es,fun b hb=> ?_,f.tof C c (fun b hb=>by cases hb;exact hfresh),⟨fun y d hy e=> ?_,fun y es hy e=> ?_,fun y u hy e=> ?_⟩,f.st.fr.keeps ks,fun y u e=>f.st.tv y u (noOwn_v (upd_v (fun Z q=>by cases q) e))⟩,f.t0,f.chg.trans (c.mono (fun b hb=>by cases hb;exact hfresh) fun Z q=>q.elim),f.own,f.sub,f.slot,fun y es hy e=> ?_⟩,
  c.mono (fun b hb=>by subst hb;exact .inr (.inl ha)) fun Z q=>q.elim,fun Z q=> .inl q,fun b hb=> ?_,fun Z q=>q⟩
 ·by_cases q:b=a
  ·subst q;exact ⟨_,_,hg⟩
  ·refine ea21 (f.st.sh b hb) fun us m e=> ?_;exact ⟨us,m,c.keep b _ q e⟩
 ·unfold setO at e
  rw [lk_upd] at e
  split at e
  ·exact nomatch e
  ·rw [lk_noOwn] at e
   have e':lk ρ y = .d d:=by rcases q:lk ρ y with _|_|_|_<;>rw [q] at e<;>cases e;rfl
   refine ea12 (f.st.br.d y d hy e') fun v h1 h2=> ?_
   exact ⟨v,kh y v h1,h2.chg c bl⟩
 ·unfold setO at e
  rw [lk_upd] at e
  split at e
  ·rename_i q
   cases e
   refine lwr (beq_iff_eq.mp q) ?_
   exact ⟨a,vs',n',kh x _ hx,ha,hg,r.chg c bl⟩
  ·rw [lk_noOwn] at e
   rcases q:lk ρ y with _|_|_|_<;>rw [q] at e<;>cases e
 ·unfold setO at e
  exact kh y u (f.st.br.v y u hy (noOwn_v (upd_v (fun Z q=>by exact nomatch q) e)))
 ·unfold setO at e
  rw [lk_upd] at e
  split at e
  ·rename_i q
   cases e
   refine lwr (beq_iff_eq.mp q) ?_
   exact ⟨a,vs',n',kh x _ hx,ha,hfresh,hg,r.chg c bl⟩
  ·rw [lk_noOwn] at e
   rcases q:lk ρ y with _|_|_|_<;>rw [q] at e<;>cases e
 ·rcases e:s.heap.get? b with _|o
  ·rfl
  ·by_cases q:b=a
   ·subst q;rw [show h'.get? b=none from hb] at hg;exact nnE hg
   ·rw [c.keep b o q e] at hb;exact nomatch hb
end
structure ItC (prog:Program) (w:World) (T:Heap->Prop) (I:Addr) (own:Addr->Prop) (G:Nat->Prop) (P:List Addr->Shared->Prop):Prop where
 frame : ∀ W s s',P W s->T s'.heap->(∀ b o,(own b\/(b∉W/\isSeq o))->s.heap.get? b=some o->s'.heap.get? b=some o)->(∀ j x,G j->s.gens[j]? = some x->s'.gens[j]? = some x)->P W s'
 grow : ∀ W W' s,P W s->(∀ a∈W',a∈W\/s.heap.get? a=none)->P W' s
 here : ∀ W s a,P W s->own a -> ∃ o,s.heap.get? a=some o
 hereG : ∀ W s j,P W s->G j -> ∃ x,s.gens[j]? = some x
 blind : ∀ W s,P W s -> ∀ a,own a -> ∀ o,s.heap.get? a=some o -> ¬ isSeq o
 letgo : ∀ A W s t v (Q:Unit->Shared->Prop) (E:Value->Shared->Prop),P W s->Q () s->wpAny (model prog w) A (letOwnedTupleGo t (.ref I) v) Q E s
noncomputable def Itr (prog:Program) (w:World) (T:Heap->Prop) (k:Nat) (I:Addr):List D->(Addr->Prop)->(Nat->Prop)->(List Addr->Shared->Prop)->Prop
 | [],own,G,P=>ItC prog w T I own G P /\ ∀ A W s (Q:Option Value->Shared->Prop) (E:Value->Shared->Prop),Room A k->P W s->(∀ s',Chg own G s s'->Q none s')->wpAny (model prog w) A (pyNext (.ref I)) Q E s
 | d::r,own,G,P=>ItC prog w T I own G P /\ ∀ A W s (Q:Option Value->Shared->Prop) (E:Value->Shared->Prop),Room A k->P W s ->
   (∀ v s' own' G' P',Itr prog w T k I r own' G' P'->P' W s'->(∀ a,own' a->own a\/s.heap.get? a=none)->(∀ j,G' j->G j\/s.gens[j]? = none)->Chg own G s s'->(Shut W s'.heap->Rep W s'.heap v d)->Q (some v) s') ->
   wpAny (model prog w) A (pyNext (.ref I)) Q E s
theorem Itr.c {prog:Program} {w:World} {T:Heap->Prop} {k:Nat} {I:Addr} {xs:List D} {own:Addr->Prop} {G:Nat->Prop} {P:List Addr->Shared->Prop} (h:Itr prog w T k I xs own G P):ItC prog w T I own G P:=by
 rcases xs with _|⟨_,_⟩
 ·exact h.1
 ·exact h.1
theorem ItF.itr {prog:Program} {w:World} {T:Heap->Prop} {k:Nat} {I:Addr} {xs:List D} {own:Addr->Prop} {G:Nat->Prop} {St:List Addr->Nat->Shared->Prop} (F:ItF prog w T k I xs own G St) {A₀:Around} (rm₀:Room A₀ k) :
  ∀ i,i<=xs.length->Itr prog w T k I (xs.drop i) own G (fun W s=>St W i s):=by
 have c : ∀ i,ItC prog w T I own G (fun W s=>St W i s):=fun i=>
  ⟨fun W s s' st ht hk hg=>(F.it A₀ W rm₀).frame i s s' st ht hk hg,fun W W' s st h=>F.grow W W' i s st h,fun W s a st h=>F.here W i s a st h,fun W s j st h=>F.hereG W i s j st h,fun W s st=>(F.it A₀ W rm₀).blind i s st,
   fun A W s t v Q E st h=>(F.it A₀ W rm₀).letgo i s t v Q E st h⟩
 intro i hi
 generalize hn:xs.length-i=n
 induction n generalizing i with
 | zero=>
  have:i=xs.length:=by exact Nat.le_antisymm ((fun {i₁ i₂} ↦ String.Pos.Raw.mk_le_mk.mp) hi) (Nat.le_of_sub_eq_zero hn)
  subst this
  refine rwl List.drop_length ?_
  exact ⟨c _,fun A W s Q E rm st h=>(F.it A W rm).done s Q E st h⟩
 | succ n ih=>
  have hlt:i<xs.length:=by exact Nat.lt_of_sub_eq_succ hn
  refine rwl (List.drop_eq_getElem_cons hlt) ?_
  refine ⟨c _,fun A W s Q E rm st h=>(F.it A W rm).item i s xs[i] Q E st (List.getElem?_eq_getElem hlt) fun v s' st' ch r=> ?_⟩
  exact h v s' own G _ (ih (i+1) hlt (by exact H404 hn)) st' (fun a ha=> .inl ha) (fun j hj=> .inl hj) ch r
structure CtxG (prog:Program) (w:World) (T:Heap->Prop) (V:Value->Prop) (F:Str->Option Addr) (Φ B:Fns) (Γ:Gens) (k:Nat):Prop extends Ctx prog w T V F Φ B k where
 gn : ∀ f d xs,Γ f d=some xs -> ∃ a,F f=some a /\ ∀ (A:Around) (s:Shared) (W:List Addr) (v:Value) (Q:Value->Shared->Prop) (E:Value->Shared->Prop),Room A k->T s.heap->Shut W s.heap->Rep W s.heap v d ->
  (∀ I s' own G P,Ext s s'->(∀ b,own b->s.heap.get? b=none)->(∀ j,G j->s.gens[j]? = none)->Itr prog w T k I xs own G P->(∀ W' s'',(∀ b∈W',b∈W\/s'.heap.get? b=none)->Ext s' s''->P W' s'')->Q (.ref I) s') ->
  wpAny (model prog w) A (call (.ref a) [v]) (fun x s₁=>wpAny (model prog w) A (pyIter x) Q E s₁) E s
section
variable {prog:Program} {w:World} {T:Heap->Prop} {V:Value->Prop} {F:Str->Option Addr} {Φ B:Fns} {Γ:Gens} {k:Nat} {W₀ W W':List Addr} {env:Env} {sc:Sc} {ρ:Loc} {s₀ s s' s'':Shared} {A:Around} {E:Value->Shared->Prop}
theorem Frm.chg' (C:TopS T F) {P:Addr->Prop} {G:Nat->Prop} (f:Frm T V W₀ W env sc ρ s₀ s) (c:Chg P G s s') (hP : ∀ a,P a->s₀.heap.get? a=none) (hG : ∀ j,G j->s₀.gens[j]? = none)
  (hS : ∀ a,P a -> ¬ Slots env a) (hW : ∀ a∈W,¬ P a) (hb:Blind W s.heap P):Frm T V W₀ W env sc ρ s₀ s':=by
 have ks : ∀ b o,Slots env b->s.heap.get? b=some o->s'.heap.get? b=some o:=fun b o hb e=>c.keep b o (fun q=>hS b q hb) e
 have kh : ∀ x v,Holds env s.heap x v->Holds env s'.heap x v:=fun x v z=>by
  rcases z with ⟨a,m,hn,hm⟩|⟨a,cc,hc,o,ho,hd⟩
  ·exact .inl ⟨a,m,hn.at' fun o e=>ks _ o (.inl rfl) e,hm⟩
  ·exact .inr ⟨a,cc,hc,o,ks _ o (.inr ⟨x,hc⟩) ho,hd⟩
 refine ⟨⟨f.st.es,f.st.sh.chg c hW,f.tof C c hP,⟨fun y d hy e=> ?_,fun y ds hy e=> ?_,fun y u hy e=>kh y u (f.st.br.v y u hy e)⟩,f.st.fr.keeps ks,f.st.tv⟩,f.t0,f.chg.trans (c.mono hP hG),f.own,f.sub,f.slot,fun y ds hy e=> ?_⟩
 ·refine ea12 (f.st.br.d y d hy e) fun v h1 h2=> ?_
  exact ⟨v,kh y v h1,h2.chg c hb⟩
 ·refine ea34 (f.st.br.o y ds hy e) fun a us m h1 h2 h3 h4=> ?_
  exact ⟨a,us,m,kh y _ h1,h2,c.keep a _ (hW a h2) h3,h4.chg c hb⟩
 ·refine ea35 (f.of y ds hy e) fun a us m h1 h2 h3 h4 h5=> ?_
  exact ⟨a,us,m,kh y _ h1,h2,h3,c.keep a _ (hW a h2) h4,h5.chg c hb⟩
theorem Mv.step {P:Addr->Prop} {G:Nat->Prop} (m:Mv env W s W' s') (c:Chg P G s' s'') (hP : ∀ a,P a->s.heap.get? a=none) (hG : ∀ j,G j->s.gens[j]? = none):Mv env W s W' s'':=
 ⟨m.chg.trans (c.mono (fun a h=> .inr (.inr (hP a h))) hG),m.own,(fun a h=>by
  rcases e:s.heap.get? a with _|o
  ·rfl
  ·have h1:s'.heap.get? a≠none:=fun q=>by rw [m.live a q] at e;exact nnE e
   rcases e1:s'.heap.get? a with _|o'
   ·exact absurd e1 h1
   ·rw [c.keep a o' (fun q=>by rw [hP a q] at e;exact nomatch e) e1] at h;exact nomatch h),m.sub⟩
theorem slots_live (fr:FrameS env s.heap) {a:Addr} (h:Slots env a):s.heap.get? a≠none:=fun q=>by
 rcases h with rfl|⟨y,hy⟩
 ·refine ea42 fr.ns fun m o' es ep g Z=> ?_;exact nomatch q.symm.trans g
 ·refine ea22 (fr.cells y a hy) fun v o' g Z=> ?_;exact nomatch q.symm.trans g
theorem Frm.base (f:Frm T V W₀ W env sc ρ s₀ s) {a:Addr} (h:s.heap.get? a=none):s₀.heap.get? a=none:=by
 rcases e:s₀.heap.get? a with _|o
 ·rfl
 ·rw [f.chg.keep a o (fun q=>nomatch q.symm.trans e) e] at h;exact nomatch h
theorem Frm.baseG (f:Frm T V W₀ W env sc ρ s₀ s) {j:Nat} (h:s.gens[j]? = none):s₀.gens[j]? = none:=by
 rcases e:s₀.gens[j]? with _|o
 ·rfl
 ·rw [f.chg.gen j o (fun q=>nomatch q.symm.trans e) e] at h;exact nomatch h
noncomputable def PX (T:Heap->Prop) (V:Value->Prop) (W₀ W:List Addr) (env:Env) (sc:Sc) (s₀ s:Shared) (res:Loc×Option D) (Q:Flow->Shared->Prop):Prop:=match res.2 with
 | none=> ∀ W' s',Frm T V W₀ W' env sc res.1 s₀ s'->Mv env W s W' s'->Q .next s'
 | some d=> ∀ v s',Ext s₀ s'->Rep W₀ s'.heap v d->Q (.ret v) s'
variable (prog w T V Φ B Γ k)
noncomputable def SX (ms:MS):Prop:= ∀ (sc:Sc) (st:Stmt) (A:Around) (env:Env) (W₀ W:List Addr) (ρ:Loc) (s₀ s:Shared) (res:Loc×Option D) (Q:Flow->Shared->Prop) (E:Value->Shared->Prop),
 mtS ms sc st=true->Room A k->Frm T V W₀ W env sc ρ s₀ s->ex Φ B Γ ms ρ=some res->PX T V W₀ W env sc s₀ s res Q->wpAny (model prog w) A (exec st env) Q E s
noncomputable def SXs (ms:MSs):Prop:= ∀ (sc:Sc) (st:List Stmt) (A:Around) (env:Env) (W₀ W:List Addr) (ρ:Loc) (s₀ s:Shared) (res:Loc×Option D) (Q:Flow->Shared->Prop) (E:Value->Shared->Prop),
 mtSs ms sc st=true->Room A k->Frm T V W₀ W env sc ρ s₀ s->exs Φ B Γ ms ρ=some res->PX T V W₀ W env sc s₀ s res Q->wpAny (model prog w) A (execs st env) Q E s
variable {prog w T V Φ B Γ k}
theorem Frm.done (f:Frm T V W₀ W env sc ρ s₀ s):Ext s₀ s:=f.chg.ext (fun Z q=>q) fun Z q=>q
theorem mtSs_el {m:MS} {r:MSs} {sc:Sc} {st:List Stmt} {P:List Stmt->Prop} (h:mtSs (.cons m r) sc st=true) (k : ∀ t ts,mtS m sc t=true->mtSs r sc ts=true->P (t::ts)):P st:=match st,h with
 | t::ts,h=>and2 h (k t ts)
theorem sxs_nil:SXs prog w T V Φ B Γ k .nil:=by
 intro sc st A env W₀ W ρ s₀ s res Q E hm rm f he h
 obtain rfl:=nilB hm;obtain rfl:=Option.some.inj he
 exact wpAny_execs_nil (h W s f (Mv.refl env W s))
theorem sxs_cons {m:MS} {r:MSs} (hs:SX prog w T V Φ B Γ k m) (hr:SXs prog w T V Φ B Γ k r):SXs prog w T V Φ B Γ k (.cons m r):=by
 intro sc st A env W₀ W ρ s₀ s res Q E hm rm f he h
 apply mtSs_el hm;clear hm;intro t ts hmt hmr
 refine bindE he fun p hp he=> ?_
 refine rwl (execs_cons _ _ _) ?_
 refine wpAny_bind (hs sc t A env W₀ W ρ s₀ s p _ _ hmt rm f hp ?_)
 obtain ⟨ρ₁,o⟩:=p
 rcases o with _|d
 ·intro W' s' f' mv
  refine hr sc ts A env W₀ W' ρ₁ s₀ s' res Q E hmr rm f' he ?_
  obtain ⟨ρ₂,o₂⟩:=res
  rcases o₂ with _|d
  ·exact fun W'' s'' f'' mv'=>h W'' s'' f'' (mv.trans mv')
  ·exact h
 ·obtain rfl:=Option.some.inj he
  exact fun v s' x r=>wpAny_pure (h v s' x r)
theorem not_inter (es:EnvS env sc):interactive env=false:=by unfold interactive;refine rwl es.kind ?_;rfl
theorem swaps {v:Expr} (h:plE v=true) (y:Str) (p:Pos) (l:Nat) (env:Env):swapsWith v (some (.Name y p)) l env=pure false:=by
 rcases v with _|_|_|_|_|_|_|_|_|_|_|_|_|_|_|_|_|_|_|_|_|_|_|_|_|_|_<;>first|rfl|exact ff h
theorem swapsC (x:Expr) (gs:List Comprehension) (sc:Scope) (pos:Pos) (y:Str) (p:Pos) (l:Nat) (env:Env) : ∃ b,swapsWith (.ListComp x gs sc pos) (some (.Name y p)) l env=pure b:=⟨_,rfl⟩
theorem isComp_el {m:ME} {P:ME->Prop} (h:isComp m=true) (k1 : ∀ elt tg r it cs,P (.comp elt tg r it cs)) (k2 : ∀ elt t1 i1 t2 i2,P (.comp2 elt t1 i1 t2 i2)):P m:=by
 rcases m with _|_|_|_|_|_|_|_|_|_|_|_|_|_|_|_|⟨elt,tg,r,it,cs⟩|⟨elt,t1,i1,t2,i2⟩|_|_|_
 case comp=>exact k1 elt tg r it cs
 case comp2=>exact k2 elt t1 i1 t2 i2
 all_goals exact ff h
theorem isFresh_nc {m:ME} (h:isFresh m=true):isComp m=false:=by
 apply isFresh_el h<;>intros<;>rfl
theorem asg_lc {x:Str} {p pos:Pos} {Q:Flow->Shared->Prop} (X:Expr) (gs:List Comprehension) (scope:Scope) (cpos:Pos)
  (h1:swapsWith (.ListComp X gs scope cpos) (some (.Name x p)) pos.line env=pure false->wpAny (model prog w) A (exec (.Assign [.Name x p] (.ListComp X gs scope cpos) pos) env) Q E s)
  (h2:wpAny (model prog w) A (evalThenUse (.ListComp X gs scope cpos) env (assign (.Name x p) env)) (fun Z s'=>wpAny (model prog w) A (pure Flow.next) Q E s') E s):wpAny (model prog w) A (exec (.Assign [.Name x p] (.ListComp X gs scope cpos) pos) env) Q E s:=by
 obtain ⟨b,hb⟩:=swapsC X gs scope cpos x p pos.line env
 rcases b with _|_
 ·exact h1 hb
 ·refine rwl (exec_Assign_Name_used _ _ _ _ hb) ?_;exact wpAny_bind (wpAny_standAt (wpAny_bind h2))
theorem comp_store (C:TopS T F) {x:Str} {p:Pos} {d:D} {Q:Flow->Shared->Prop} (f:Frm T V W₀ W env sc ρ s₀ s) (hx:okS sc x=true) (h : ∀ W' s',Frm T V W₀ W' env sc (upd ρ x (.d d)) s₀ s'->Mv env W s W' s'->Q .next s') :
  ∀ ds D₀ C₀ s' ys n,d = .list ds->Ext s s'->s.heap.get? D₀=none->s.heap.get? C₀=none->C₀≠D₀->s'.heap.get? D₀=some (lObj ys n)->RepL W s'.heap ys ds->RepL (D₀::W) s'.heap ys ds->(∃ m,s'.heap.Ns C₀ m) ->
   compPost (model prog w) A E (some (assign (.Name x p) env)) (fun Z s'=>Q .next s') (.ref D₀) C₀ (.ok .next) s':=by
 intro ds D₀ C₀ s' ys n hdd xx hD hC hCD hacc hys Z hns
 subst hdd
 show wpAny _ A (assign (.Name x p) env (.ref D₀)) _ _ _
 have nW:D₀∉W:=fun hm=>by refine ea21 (f.st.sh _ hm) fun vs nnE e=> ?_;exact nomatch hD.symm.trans e
 refine wpAny_assign_Name (store_nm C (f.ext C xx) hx (.list nW hacc hys) fun s'' f' mv c=> ?_)
 refine ea11 hns fun m hns=> ?_
 have nS : ¬ Slots env C₀:=fun q=>slots_live f.st.fr q hC
 have hns':s''.heap.Ns C₀ m:=hns.at' fun o e=>c.keep _ o nS e
 refine ⟨m,hns',fun h' hs'=> ?_⟩
 have cc:Chg (·= C₀) (fun Z=>False) s'' { s'' with heap:=h' }:=Chg.one s''.toks hs'
 refine h W _ (f'.chg' C cc (fun a ha=>by cases ha;exact f.base hC) (fun Z q=>q.elim) (fun a ha=>by cases ha;exact nS) (fun a ha q=>by cases q;refine ea21 (f.st.sh _ ha) fun vs nnE e=> ?_;exact nomatch hC.symm.trans e) fun a ha=>by cases ha;exact .inr (not_seq_ns hns')) ?_
 exact (xx.mv.trans mv).step cc (fun a ha=>by cases ha;exact hC) fun Z q=>q.elim
theorem sx_asg (C:Ctx prog w T V F Φ B k) {x:Str} {e:ME}:SX prog w T V Φ B Γ k (.asg x e):=by
 intro sc st A env W₀ W ρ s₀ s res Q E hm rm f he h
 apply onSAssign_el hm;clear hm;intro ts v pos hm
 apply on1_el hm;clear hm;intro t hm
 apply onName_el hm;clear hm;intro y p hm
 refine and3 hm fun hy hx hme=> ?_
 clear hm;obtain rfl:=eqB hy
 obtain ⟨d,hd,rfl⟩:=Option.map_eq_some_iff.mp he
 have plain:swapsWith v (some (.Name x p)) pos.line env=pure false->wpAny (model prog w) A (exec (.Assign [.Name x p] v pos) env) Q E s:=fun hsw=>
  wpAny_Assign_Name ((all_se C e).1 sc v A env W ρ s d _ E hme rm f.st hd fun v s₁ x₁ r₁=>store_nm C.top (f.ext C.top x₁) hx r₁ fun s' f' mv Z=>h W s' f' (x₁.mv.trans mv)) hsw
 rcases hc:isComp e with _|_
 ·exact plain (swaps (mt_pl hme hc) _ _ _ _)
 ·revert hme hd
  apply isComp_el hc
  ·intro elt tg r it cs hme hd
   revert plain;apply comp_el hme;clear hme;intro X t i fs scope cpos hm plain
   refine asg_lc _ _ _ _ plain ?_
   exact wpAny_bind (wpAny_mono (comp_core C (Q:=fun Z s'=>Q .next s') (all_se C it).1 (all_se C elt).1 (all_sl C cs).2.2 hm rm f.st hd (comp_store C.top f hx h)) (fun Z s' hq=>wpAny_pure (wpAny_pure hq)) fun Z Z e=>e)
  ·intro elt t1 i1 t2 i2 hme hd
   revert plain;apply comp2_el hme;clear hme;intro X t i t' i' scope cpos hm plain
   refine asg_lc _ _ _ _ plain ?_
   exact wpAny_bind (wpAny_mono (comp2_core C (Q:=fun Z s'=>Q .next s') (all_se C i1).1 (all_se C i2).1 (all_se C elt).1 hm rm f.st hd (comp_store C.top f hx h)) (fun Z s' hq=>wpAny_pure (wpAny_pure hq)) fun Z Z e=>e)
theorem fresh_nocomp {m:ME} {sc:Sc} {v:Expr} (hf:isFresh m=true) (h:mt m sc v=true) (y:Str) (p:Pos) (l:Nat) (env:Env):swapsWith v (some (.Name y p)) l env=pure false:=swaps (mt_pl h (isFresh_nc hf)) y p l env
theorem store_fresh (C:TopS T F) {x:Str} {ds:List D} {Q:Unit->Shared->Prop} (f:Frm T V W₀ W env sc ρ s₀ s) (hx:okS sc x=true)
  (h : ∀ W' s',Frm T V W₀ W' env sc (upd ρ x (.o ds)) s₀ s'->Mv env W s W' s'->Q () s'):GivesF s W (.list ds) (fun v s₁=>wpAny (model prog w) A (storeName env x v) Q E s₁):=by
 intro a vs n ds' s₁ e x₁ hn hg r r'
 cases e
 refine ea02 (f.grow C x₁ hn hg) fun f₁ mv=> ?_
 exact store_nmO C f₁ hx List.mem_cons_self (f.base hn) hg r' fun s' f' mv' Z=>h _ s' f' (mv.trans mv')
theorem sx_asgO (C:Ctx prog w T V F Φ B k) {x:Str} {e:ME}:SX prog w T V Φ B Γ k (.asgO x e):=by
 intro sc st A env W₀ W ρ s₀ s res Q E hm rm f he h
 apply onSAssign_el hm;clear hm;intro ts v pos hm
 apply on1_el hm;clear hm;intro t hm
 apply onName_el hm;clear hm;intro y p hm
 refine and4 hm fun hy hx hme hf=> ?_
 clear hm;obtain rfl:=eqB hy
 refine lstE he fun ds hd he=> ?_
 obtain rfl:=Option.some.inj he
 exact wpAny_Assign_Name (sf C hf hme rm f.st hd (store_fresh C.top f hx h)) (fresh_nocomp hf hme _ _ _ _)
theorem holds_ok {x:Str} (h:okS sc x=true):okN sc x=true:=(andB h).1
theorem sx_asgI (C:Ctx prog w T V F Φ B k) {x:Str} {c e:ME}:SX prog w T V Φ B Γ k (.asgI x c e):=by
 intro sc st A env W₀ W ρ s₀ s res Q E hm rm f he h
 apply onSAssign_el hm;clear hm;intro ts v pos hm
 apply on1_el hm;clear hm;intro t hm
 apply onName_el hm;clear hm;intro y p hm
 apply onIfExp_el hm;clear hm;intro t z o Z hm
 apply onName_el hm;clear hm;intro z Z hm
 refine and7 hm fun hy hz hx hmc hme hf Z=> ?_
 clear hm;obtain rfl:=eqB hy;obtain rfl:=eqB hz
 refine bindE he fun b hb he=>bindE hb fun cd hcd hb=> ?_
 refine wpAny_Assign_Name ?_ (by rfl)
 refine wpAny_IfExp ((all_se C c).2 sc t A env W ρ s cd b _ E hmc rm f.st hcd hb fun s₁ x₁=> ?_)
 have f₁:=f.ext C.top x₁
 rcases b with _|_
 ·refine lstE he fun ds hd he=> ?_
  obtain rfl:=Option.some.inj he
  exact sf C hf hme rm f₁.st hd (store_fresh C.top f₁ hx fun W' s' f' mv=>h W' s' f' (x₁.mv.trans mv))
 ·refine ownE he fun ds hl he=> ?_
  obtain rfl:=Option.some.inj he
  refine ea35 (f₁.of x ds (holds_ok hx) hl) fun a vs n h1 h2 h3 h4 h5=> ?_
  exact name_holds f.st.es (holds_ok hx) h1 (store_nmO C.top f₁ hx h2 h3 h4 h5 fun s' f' mv Z=>h W s' f' (x₁.mv.trans mv))
end
section
variable {prog:Program} {w:World} {T:Heap->Prop} {V:Value->Prop} {F:Str->Option Addr} {Φ B:Fns} {Γ:Gens} {k:Nat} {W₀ W W':List Addr} {env:Env} {sc:Sc} {ρ:Loc} {s₀ s s' s'':Shared} {A:Around} {E:Value->Shared->Prop}
inductive VLs (W:List Addr) (s₀:Shared) (h:Heap):List Value->List (Str×Bd)->Prop
 | nil:VLs W s₀ h [] []
 | d {x v d vs bs} (r:Rep W h v d) (t:VLs W s₀ h vs bs):VLs W s₀ h (v::vs) ((x,.d d)::bs)
 | o {x a us n ds vs bs} (ha:a∈W) (hf:s₀.heap.get? a=none) (hg:h.get? a=some (lObj us n)) (r:RepL W h us ds) (t:VLs W s₀ h vs bs):VLs W s₀ h (.ref a::vs) ((x,.o ds)::bs)
theorem Rep.up {h:Heap} {v:Value} {d:D} (r:Rep W h v d) (hW : ∀ a∈W',a∈W\/h.get? a=Option.none):Rep W' h v d:=
 r.mono fun a o ha Z e=>⟨fun hm=>(hW a hm).elim ha (fun q=>by exact nomatch q.symm.trans e),e⟩
theorem VLs.length {h:Heap} {vs:List Value} {bs:List (Str×Bd)} (v:VLs W s₀ h vs bs):vs.length=bs.length:=by
 induction v with
 | nil=>rfl
 | d _ _ ih=>simp [ih]
 | o _ _ _ _ _ ih=>simp [ih]
theorem VLs.ext {vs:List Value} {bs:List (Str×Bd)} (v:VLs W s₀ s.heap vs bs) (x:Ext s s'):VLs W s₀ s'.heap vs bs:=by
 induction v with
 | nil=>exact .nil
 | d r _ ih=>exact .d (r.ext x) ih
 | o ha hf hg r _ ih=>exact .o ha hf (x.keep _ _ hg) (r.ext x) ih
theorem VLs.slots {vs:List Value} {bs:List (Str×Bd)} (v:VLs W s₀ s.heap vs bs) (fr:FrameS env s.heap) (hW : ∀ a∈W,¬ Slots env a) (c:Chg (Slots env) (fun Z=>False) s s'):VLs W s₀ s'.heap vs bs:=by
 induction v with
 | nil=>exact .nil
 | d r _ ih=>exact .d (r.chg c fr.blind) ih
 | o ha hf hg r _ ih=>exact .o ha hf (c.keep _ _ (hW _ ha) hg) (r.chg c fr.blind) ih
theorem VLs.append {h:Heap} {vs us:List Value} {bs cs:List (Str×Bd)} (v:VLs W s₀ h vs bs) (u:VLs W s₀ h us cs):VLs W s₀ h (vs++us) (bs++cs):=by
 induction v with
 | nil=>exact u
 | d r _ ih=>exact .d r ih
 | o ha hf hg r _ ih=>exact .o ha hf hg r ih
theorem VLs.reverse {h:Heap} {vs:List Value} {bs:List (Str×Bd)} (v:VLs W s₀ h vs bs):VLs W s₀ h vs.reverse bs.reverse:=by
 induction v with
 | nil=>exact .nil
 | d r _ ih=>refine rwl List.reverse_cons (rwl List.reverse_cons ?_);exact ih.append (.d r .nil)
 | o ha hf hg r _ ih=>refine rwl List.reverse_cons (rwl List.reverse_cons ?_);exact ih.append (.o ha hf hg r .nil)
theorem mtT_el {x:Str} {o:Bool} {e:ME} {r:List (Str×Bool×ME)} {sc:Sc} {ts vs:List Expr} {P:List Expr->List Expr->Prop} (h:mtT sc ((x,o,e)::r) ts vs=true)
  (k : ∀ p ts v vs,okS sc x=true->mt e sc v=true->notStar v=true->(!o || isFresh e)=true->mtT sc r ts vs=true->P (.Name x p::ts) (v::vs)):P ts vs:=by
 apply onC_el (P:=fun ts=>P ts vs) h;intro t ts h
 apply onC_el h;clear h;intro v vs h
 apply onName_el h;clear h;intro y p h
 refine and6 h fun h1 h2 h3 h4 h5 h6=> ?_
 clear h;obtain rfl:=eqB h1
 exact k p ts v vs h2 h3 h4 h5 h6
theorem tup_vals (C:Ctx prog w T V F Φ B k) (rm:Room A k) {pos:Pos} : ∀ (xs:List (Str×Bool×ME)) (ts vs:List Expr) (bs:List (Str×Bd)) (W:List Addr) (s:Shared) (Q:List Value->Shared->Prop),mtT sc xs ts vs=true->Frm T V W₀ W env sc ρ s₀ s->evT Φ B xs ρ=some bs ->
  (∀ W' us s',Frm T V W₀ W' env sc ρ s₀ s'->Ext s s'->(∀ a∈W',a∈W\/s.heap.get? a=none)->(∀ a∈W,a∈W')->VLs W' s₀ s'.heap us bs->Q us s')->wpAny (model prog w) A (spliced (backTo pos (starEach vs env))) Q E s
 | [],ts,vs,bs,W,s,Q,hm,f,he,h=>by
  cases nilB (andB hm).2;obtain rfl:=Option.some.inj he
  exact PySem.Calls.spliced_nil (h W [] s f (Ext.refl s) (fun Z q=> .inl q) (fun Z q=>q) .nil)
 | (x,o,e)::r,ts,vs,bs,W,s,Q,hm,f,he,h=>by
  apply mtT_el hm;clear hm;intro p ts v vs hx hme hst hfr hmr
  refine bindE he fun d hd he=>bindE he fun b hb he=> ?_
  obtain ⟨bs',hbs,rfl⟩:=Option.map_eq_some_iff.mp he
  refine rwl (starEach_cons hst) ?_
  refine PySem.Calls.spliced_cons ?_
  rcases o with _|_
  ·obtain rfl:=Option.some.inj hb
   refine (all_se C e).1 sc v A env W ρ s d _ E hme rm f.st hd fun v' s₁ x₁ r₁=> ?_
   refine tup_vals C rm r ts vs bs' W s₁ _ hmr (f.ext C.top x₁) hbs fun W' us s' f' x' hW hsub hv=> ?_
   exact h W' _ s' f' (x₁.trans x') (fun a ha=>(hW a ha).imp id fun q=>x₁.none q) hsub (.d ((r₁.up hW).ext x') hv)
  ·refine lstE hb fun ds hds hb=> ?_
   obtain rfl:=Option.some.inj hds;obtain rfl:=Option.some.inj hb
   refine sf C hfr hme rm f.st hd ?_
   intro a us n ds' s₁ e₁ x₁ hn hg r₁ r₁'
   cases e₁
   refine ea02 (f.grow C.top x₁ hn hg) fun f₁ mv=> ?_
   refine tup_vals C rm r ts vs bs' (a::W) s₁ _ hmr f₁ hbs fun W' us' s' f' x' hW hsub hv=> ?_
   refine h W' _ s' f' (x₁.trans x') (fun b hb=> ?_) (fun b hb=>hsub b (List.mem_cons_of_mem _ hb)) (.o (hsub a List.mem_cons_self) (f.base hn) (x'.keep _ _ hg) ((r₁'.up hW).ext x') hv)
   rcases hW b hb with q|q
   ·rcases List.mem_cons.mp q with rfl|q
    ·exact .inr hn
    ·exact .inl q
   ·exact .inr (x₁.none q)
inductive SA2 (prog:Program) (w:World) (A:Around) (env:Env):List (Value->Sem Unit)->List (Str×Bd)->Prop
 | nil:SA2 prog w A env [] []
 | cons {x b t ts bs} (h : ∀ v (Q:Unit->Shared->Prop) (E:Value->Shared->Prop) s,wpAny (model prog w) A (storeName env x v) Q E s->wpAny (model prog w) A (t v) Q E s) (r:SA2 prog w A env ts bs):SA2 prog w A env (t::ts) ((x,b)::bs)
theorem SA2.append {ts us:List (Value->Sem Unit)} {bs cs:List (Str×Bd)} (v:SA2 prog w A env ts bs) (u:SA2 prog w A env us cs):SA2 prog w A env (ts++us) (bs++cs):=by
 induction v with
 | nil=>exact u
 | cons h _ ih=>exact .cons h ih
theorem SA2.reverse {ts:List (Value->Sem Unit)} {bs:List (Str×Bd)} (v:SA2 prog w A env ts bs):SA2 prog w A env ts.reverse bs.reverse:=by
 induction v with
 | nil=>exact .nil
 | cons h _ ih=>refine rwl List.reverse_cons (rwl List.reverse_cons ?_);exact ih.append (.cons h .nil)
theorem store_all (C:TopS T F) {ts:List (Value->Sem Unit)} {bs:List (Str×Bd)} (sa:SA2 prog w A env ts bs) : ∀ (vs:List Value) (ρ:Loc) (s:Shared) (Q:Unit->Shared->Prop),VLs W s₀ s.heap vs bs->(∀ p∈bs,okS sc p.1=true)->Frm T V W₀ W env sc ρ s₀ s ->
  (∀ s',Frm T V W₀ W env sc (bs.foldl (fun ρ p=>upd ρ p.1 p.2) ρ) s₀ s'->Mv env W s W s'->Q () s')->wpAny (model prog w) A (assignInOrder ts vs) Q E s:=by
 induction sa with
 | nil=>
  intro vs ρ s Q v Z f h
  cases v;exact wpAny_assignInOrder_none (h s f (Mv.refl env W s))
 | cons ht _ ih=>
  intro vs ρ s Q v ho f h
  cases v with
  | d r rv=>exact wpAny_assignInOrder_more (ht _ _ _ _ (store_nm C f (ho _ List.mem_cons_self) r fun s₁ f₁ mv c=>ih _ _ s₁ Q (rv.slots f.st.fr f.wslot c) (fun p hp=>ho p (List.mem_cons_of_mem _ hp)) f₁ fun s' f' mv'=>h s' f' (mv.trans mv')))
  | o ha hf hg r rv=>exact wpAny_assignInOrder_more (ht _ _ _ _ (store_nmO C f (ho _ List.mem_cons_self) ha hf hg r fun s₁ f₁ mv c=>ih _ _ s₁ Q (rv.slots f.st.fr f.wslot c) (fun p hp=>ho p (List.mem_cons_of_mem _ hp)) f₁ fun s' f' mv'=>h s' f' (mv.trans mv')))
theorem lk_fold : ∀ (bs:List (Str×Bd)) (ρ:Loc) (y:Str),(bs.map (·.1)).Nodup->(∀ b,(y,b)∈bs->lk (bs.foldl (fun ρ p=>upd ρ p.1 p.2) ρ) y=b)/\(y∉bs.map (·.1)->lk (bs.foldl (fun ρ p=>upd ρ p.1 p.2) ρ) y=lk ρ y)
 | [],ρ,y,_=>⟨fun b hb=>(nomatch hb),fun Z=>rfl⟩
 | (x,c)::r,ρ,y,hn=>by
  rw [List.map_cons,List.nodup_cons] at hn
  refine ea02 (lk_fold r (upd ρ x c) y hn.2) fun i1 i2=> ?_
  refine ⟨fun b hb=> ?_,fun hy=> ?_⟩
  ·rcases List.mem_cons.mp hb with q|q
   ·cases q
    exact rwl List.foldl_cons (rwl (i2 hn.1) (rwl (lk_upd _ _ _ _) (rwl (if_pos (beq_self_eq_true _)) rfl)))
   ·exact i1 b q
  ·rw [List.map_cons,List.mem_cons,not_or] at hy
   exact rwl List.foldl_cons (rwl (i2 hy.2) (rwl (lk_upd _ _ _ _) (rwl (if_neg (fun q=>hy.1 (beq_iff_eq.mp q).symm)) rfl)))
theorem lk_fold_rev (bs:List (Str×Bd)) (ρ:Loc) (hn:(bs.map (·.1)).Nodup) (y:Str):lk (bs.foldl (fun ρ p=>upd ρ p.1 p.2) ρ) y=lk (bs.reverse.foldl (fun ρ p=>upd ρ p.1 p.2) ρ) y:=by
 have hn':(bs.reverse.map (·.1)).Nodup:=by refine rwl List.map_reverse ?_;unfold List.Nodup;rw [List.pairwise_reverse];exact hn.imp fun h=>Ne.symm h
 refine ea02 (lk_fold bs ρ y hn) fun i1 i2=> ?_
 refine ea02 (lk_fold bs.reverse ρ y hn') fun j1 j2=> ?_
 by_cases hy:y∈bs.map (·.1)
 ·obtain ⟨⟨x,b⟩,hm,rfl⟩:=List.mem_map.mp hy
  exact rwl (i1 b hm) (rwl (j1 b (List.mem_reverse.mpr hm)) rfl)
 ·exact rwl (i2 hy) (rwl (j2 (by rwa [List.map_reverse,List.mem_reverse])) rfl)
noncomputable def nmOf:Expr->Option Str
 | .Name x _=>some x
 | _=>none
theorem mtT_names : ∀ {xs:List (Str×Bool×ME)} {ts vs:List Expr} {bs:List (Str×Bd)} {ρ:Loc},mtT sc xs ts vs=true->evT Φ B xs ρ=some bs ->
  ts.filterMap nmOf=bs.map (·.1)/\bs.map (·.1)=xs.map (·.1)/\(∀ p∈bs,okS sc p.1=true)/\ts.length=bs.length/\vs.length=bs.length/\(∀ env,SA2 prog w A env ((assignEach ts env).map (·.2)) bs/\(assignEach ts env).findIdx? (·.1)=none/\(assignEach ts env).length=bs.length/\SA2 prog w A env ((bs.map (·.1)).map fun n=>bindName env n) bs)
 | [],ts,vs,bs,ρ,hm,he=>by
  have h2:=nilB (andB hm).2;cases nilB (andB hm).1;cases h2;cases he
  exact ⟨rfl,rfl,fun Z h=>(nomatch h),rfl,rfl,fun env=>⟨.nil,rfl,rfl,.nil⟩⟩
 | (x,o,e)::r,ts,vs,bs,ρ,hm,he=>by
  apply mtT_el hm;clear hm;intro p ts v vs hx Z Z Z hmr
  refine bindE he fun d hd he=>bindE he fun b hb he=> ?_
  obtain ⟨bs',hbs,rfl⟩:=Option.map_eq_some_iff.mp he
  refine ea06 (mtT_names hmr hbs) fun i1 i2 i3 i4 i5 i6=> ?_
  refine ⟨congrArg (x :: ·) i1,congrArg (x :: ·) i2,fun p hp=> ?_,congrArg (·+ 1) i4,congrArg (·+ 1) i5,fun env=>⟨?_,?_,?_,?_⟩⟩
  ·rcases List.mem_cons.mp hp with rfl|hp
   ·exact hx
   ·exact i3 p hp
  ·exact .cons (fun v Q E s h=>wpAny_assign_Name h) (i6 env).1
  ·show (List.findIdx? _ ((false,_)::assignEach ts env))=none
   refine rwl List.findIdx?_cons (rwl ((i6 env).2.1) ?_);rfl
  ·show ((false,_)::assignEach ts env).length=_
   exact congrArg (·+ 1) (i6 env).2.2.1
  ·exact .cons (fun v Q E s h=>wpAny_bindName h) (i6 env).2.2.2
theorem filter_full {α β:Type} {f g:α->Option β} (hfg : ∀ a,f a=none\/f a=g a) : ∀ (l:List α),(l.filterMap f).length=l.length->l.filterMap f=l.filterMap g
 | [],_=>rfl
 | a::l,h=>by
  rw [List.filterMap_cons,List.filterMap_cons] at *
  have hle:=List.length_filterMap_le f l
  rcases hfg a with q|q
  ·rw [q] at h;simp at h;exact H405 hle h
  ·refine lwr q ?_
   rcases e:f a with _|b
   ·rw [e] at h;simp at h;exact H405 hle h
   ·rw [e] at h
    simp only [List.length_cons,Nat.add_right_cancel_iff] at h
    exact rwl (filter_full hfg l h) rfl
theorem swapped_cases {ts vs:List Expr} {k1 k2:Nat} {p1 p2:Pos} (hc:vs.all (constantsAlone 8)=false) :
  swappedStores [.Tuple ts k1 p1] (.Tuple vs k2 p2) env=pure none\/(swappedStores [.Tuple ts k1 p1] (.Tuple vs k2 p2) env=pure (some (ts.filterMap nmOf))):=by
 unfold swappedStores
 simp only
 split
 ·exact .inl rfl
 split
 ·exact .inl rfl
 rename_i h1 h2
 generalize hl:(ts.head?.map (·.pos.line)).getD 0=line
 generalize hn:(ts.filterMap fun | .Name id pos=>if env.kindOf id==some .local&&pos.line==line then some id else none|_=>none)=names
 split
 ·exact .inl rfl
 rename_i h3
 split
 ·exact .inl rfl
 refine .inr ?_
 refine rwl hc ?_
 have hlen:names.length=ts.length:=by
  simp only [Bool.or_eq_true,bne_iff_ne,ne_eq,not_or,Decidable.not_not] at h3
  exact h3.1
 rw [<- hn] at hlen
 refine lwr hn ?_;rw [filter_full (g:=nmOf) (fun a=> ?_) ts hlen]
 ·rfl
 ·rcases a with _|_|_|_|_|_|_|_|_|_|_|_|_|_|_|_|_|_|_|_|_|_|_|_|_|_|_<;>first|exact .inl rfl|(simp only [nmOf];split<;>first|exact .inr rfl|exact .inl rfl)
theorem sx_tup (C:Ctx prog w T V F Φ B k) {xs:List (Str×Bool×ME)}:SX prog w T V Φ B Γ k (.tup xs):=by
 intro sc st A env W₀ W ρ s₀ s res Q E hm rm f he h
 apply onSAssign_el hm;clear hm;intro tt vv pos hm
 apply on1_el hm;clear hm;intro t hm
 apply onTuple_el hm;clear hm;intro ts k1 p1 hm
 apply onTuple_el hm;clear hm;intro vs k2 p2 hm
 refine and4 hm fun hmt hnod hlen hcon=> ?_
 have hnod:=of_decide_eq_true hnod;have hlen:=of_decide_eq_true hlen;have hcon:=notB hcon
 refine ea12 (Option.map_eq_some_iff.mp he) fun bs hbs Z2=> ?_;subst Z2
 refine ea06 (mtT_names (prog:=prog) (w:=w) (A:=A) hmt hbs) fun i1 i2 i3 i4 i5 i6=> ?_
 refine ea04 (i6 env) fun a1 a2 a3 a4=> ?_
 have hl:bs.length<=3:=by
  have:=congrArg List.length i2
  simp at this;exact Nat.le_trans (Nat.le_of_eq this) hlen
 have hn:(bs.map (·.1)).Nodup:=by refine rwl i2 ?_;exact hnod
 have fin : ∀ (W':List Addr) (us:List Value) (s₁ s₂:Shared),Frm T V W₀ W' env sc ρ s₀ s₁->Ext s s₁->(∀ a∈W',a∈W\/s.heap.get? a=none)->(∀ a∈W,a∈W')->Ext s₁ s₂ -> ∀ s₃,Frm T V W₀ W' env sc (bs.foldl (fun ρ p=>upd ρ p.1 p.2) ρ) s₀ s₃->Mv env W' s₂ W' s₃->Q .next s₃:=by
  intro W' us s₁ s₂ f₁ x₁ hW hsub x₂ s₃ f₃ mv
  refine h W' s₃ f₃ (Mv.trans (W':=W') ⟨(x₁.trans x₂).chg,hW,fun Z q=>(x₁.trans x₂).none q,hsub⟩ mv)
 rcases swapped_cases (env:=env) (ts:=ts) (k1:=k1) (k2:=k2) (p1:=p1) (p2:=p2) hcon with hw|hw
 ·refine PyProof.Rows.Assign_Tuple ?_ (by rfl) hw
  refine wpAny_Tuple (tup_vals C rm xs ts vs bs W s _ hmt f hbs fun W' us s₁ f₁ x₁ hW hsub hv=>⟨?_,?_⟩)
  ·refine rwl hv.length (rwl sizeLine_eq ?_);exact Nat.le_trans hl (Nat.le_of_ble_eq_true rfl)
  ·refine rwl (assign_Tuple _ _ _ _) ?_
   refine wpAny_bind (wpAny_standAt ?_)
   refine wpAny_unpack_tuple rm.hh ⟨_,Heap.get?_push_size _ rfl,rfl,_,rfl⟩ (by refine rwl a3 ?_;simp [hv.length]) a2 fun h' hk=> ?_
   have y:=Ext.push' s₁ { cls:= .type "tuple", data:= .seq us.toArray }
   have x₂:Ext s₁ { s₁ with heap:=h' }:=Ext.heap s₁.toks fun b o e=>hk b o (Nat.ne_of_lt (Nat.lt_of_lt_of_le (Heap.lt_size e) (by show _<=(s₁.heap.push _).objs.size;refine rwl (Heap.size_push _ _) ?_;exact Nat.le_succ _))) (y.keep b o e)
   exact store_all C.top a1 us ρ _ _ (hv.ext x₂) i3 (f₁.ext C.top x₂) fun s₃ f₃ mv=>fin W' us s₁ _ f₁ x₁ hW hsub x₂ s₃ f₃ mv
 ·refine PyProof.Rows.Assign_Tuple_swapped ?_ (by rfl) hw
  refine wpAny_Tuple (tup_vals C rm xs ts vs bs W s _ hmt f hbs fun W' us s₁ f₁ x₁ hW hsub hv=>⟨?_,?_⟩)
  ·refine rwl hv.length (rwl sizeLine_eq ?_);exact Nat.le_trans hl (Nat.le_of_ble_eq_true rfl)
  ·refine rwl i1 ?_
   have hsz:(bs.map (·.1)).length=us.toArray.size:=by simp [hv.length]
   refine rwl hsz ?_
   refine wpAny_unpackItems_tuple rm.hh ⟨_,Heap.get?_push_size _ rfl,rfl,_,rfl⟩ fun h' hk=> ?_
   have y:=Ext.push' s₁ { cls:= .type "tuple", data:= .seq us.toArray }
   have x₂:Ext s₁ { s₁ with heap:=h' }:=Ext.heap s₁.toks fun b o e=>hk b o (Nat.ne_of_lt (Nat.lt_of_lt_of_le (Heap.lt_size e) (by show _<=(s₁.heap.push _).objs.size;refine rwl (Heap.size_push _ _) ?_;exact Nat.le_succ _))) (y.keep b o e)
   refine rwl (show (us.toArray.toList)=us from rfl) (rwl List.map_reverse ?_)
   refine store_all C.top a4.reverse us.reverse ρ _ _ ((hv.ext x₂).reverse) (fun p hp=>i3 p (List.mem_reverse.mp hp)) (f₁.ext C.top x₂) fun s₃ f₃ mv=>fin W' us s₁ _ f₁ x₁ hW hsub x₂ s₃ (f₃.weaken fun y=> .inr (lk_fold_rev bs ρ hn y)) mv
end
section
variable {prog:Program} {w:World} {T:Heap->Prop} {V:Value->Prop} {F:Str->Option Addr} {Φ B:Fns} {Γ:Gens} {k:Nat} {W₀ W W':List Addr} {env:Env} {sc:Sc} {ρ:Loc} {s₀ s s' s'':Shared} {A:Around} {E:Value->Shared->Prop}
theorem sx_ret (C:Ctx prog w T V F Φ B k) {e:ME}:SX prog w T V Φ B Γ k (.ret e):=by
 intro sc st A env W₀ W ρ s₀ s res Q E hm rm f he h
 apply onSReturn_el hm;clear hm;intro o p hm
 apply onSome_el hm;clear hm;intro v hm
 refine ea12 (Option.map_eq_some_iff.mp he) fun d hd Z2=> ?_;subst Z2
 exact wpAny_Return_some ((all_se C e).1 sc _ A env W ρ s d _ E hm rm f.st hd fun v s₁ x₁ r₁=>h v s₁ (f.ext C.top x₁).done (r₁.sub f.sub))
theorem Frm.rep (f:Frm T V W₀ W env sc ρ s₀ s) {a:Addr} {vs:List Value} {n:Nat} {ds:List D} (h3:s₀.heap.get? a=none) (h4:s.heap.get? a=some (lObj vs n)) (h5:RepL W s.heap vs ds):Rep W₀ s.heap (.ref a) (.list ds):=
 .list (fun hm=>by refine ea21 (f.t0.2 a hm) fun us m e=> ?_;rw [h3] at e;cases e) h4 (h5.sub f.sub)
theorem PX.ext {res:Loc×Option D} {Q:Flow->Shared->Prop} (h:PX T V W₀ W env sc s₀ s res Q) (x:Ext s s'):PX T V W₀ W env sc s₀ s' res Q:=by
 obtain ⟨ρ₁,o⟩:=res
 rcases o with _|d
 ·exact fun W' s' f' mv=>h W' s' f' (x.mv.trans mv)
 ·exact h
theorem sx_ite (C:Ctx prog w T V F Φ B k) {c:ME} {a b:MSs} (ha:SXs prog w T V Φ B Γ k a) (hb:SXs prog w T V Φ B Γ k b):SX prog w T V Φ B Γ k (.ite c a b):=by
 intro sc st A env W₀ W ρ s₀ s res Q E hm rm f he h
 apply onSIf_el hm;clear hm;intro t x y Z hm
 refine and3 hm fun hc hx hy=> ?_
 refine bindE he fun b' hb' he=>bindE hb' fun cd hcd hb'=> ?_
 refine wpAny_If ((all_se C c).2 sc t A env W ρ s cd b' _ E hc rm f.st hcd hb' fun s₁ x₁=> ?_)
 rcases b' with _|_
 ·exact hb sc y A env W₀ W ρ s₀ s₁ res Q E hy rm (f.ext C.top x₁) he (h.ext x₁)
 ·exact ha sc x A env W₀ W ρ s₀ s₁ res Q E hx rm (f.ext C.top x₁) he (h.ext x₁)
theorem load_holds {x:Str} {v:Value} {Q:Value->Shared->Prop} (es:EnvS env sc) (hx:okN sc x=true) (z:Holds env s.heap x v) (h:Q v s):wpAny (model prog w) A (loadName env x) Q E s:=by
 unfold okN at hx
 simp only [Bool.and_eq_true,Bool.not_eq_true'] at hx
 rcases z with ⟨a,m,hn,hm⟩|⟨a|a,c,hc,hv⟩
 ·exact wpAny_loadName_local es.kind a hn hm h
 ·exact wpAny_loadName_cell es.kind a hc hv h
 ·exact wpAny_loadName_free es.kind a hc hv h hx.1.2
theorem sx_aug (C:Ctx prog w T V F Φ B k) {x:Str} {op:Operator} {e:ME}:SX prog w T V Φ B Γ k (.aug x op e):=by
 intro sc st A env W₀ W ρ s₀ s res Q E hm rm f he h
 apply onSAugAssign_el hm;clear hm;intro t o v pos hm
 apply onName_el hm;clear hm;intro y p hm
 refine and4 hm fun hy hx ho hme=> ?_
 clear hm;obtain rfl:=eqB hy;obtain rfl:=(eqB ho).symm
 refine numE he fun a hl he=>intE he fun b hd he=> ?_
 obtain ⟨v₀,hv₀,r₀⟩:=f.st.br.d x _ (holds_ok hx) hl
 revert hv₀;apply r₀.int_el;intro t hv₀
 refine wpAny_AugAssign_Name (load_holds f.st.es (holds_ok hx) hv₀ ((all_se C e).1 sc v A env W ρ s _ _ E hme rm f.st hd fun v s₁ x₁ r₁=> ?_))
 apply r₁.int_el;intro u
 have fin : ∀ c:Int,PX T V W₀ W env sc s₀ s (upd ρ x (.d (.int c)),none) Q->(Made.int c).post (fun r s₃=>wpAny (model prog w) A (storeName env x r) (fun Z=>Q .next) E s₃) s₁:=fun c h=>
  store_nm C.top (f.ext C.top (x₁.trans (Ext.toks s₁ _))) hx (.int _ _) fun s' f' mv Z=>h W s' f' ((x₁.trans (Ext.toks s₁ _)).mv.trans mv)
 rcases op with _|_|_|_|_|_|_|_|_|_|_|_|_
 case Add=>obtain rfl:=Option.some.inj he;exact AutoIntOps.iadd_0 (fin _ h)
 case Sub=>obtain rfl:=Option.some.inj he;exact AutoIntOps.isub_0 (fin _ h)
 all_goals exact nnE he
theorem ns_list (h:Heap) {a:Addr} {vs:List Value} {n:Nat} (e:h.get? a=some (lObj vs n)):h.NoDictAt (.ref a):=⟨_,e,rfl⟩
theorem sx_app (C:Ctx prog w T V F Φ B k) {x:Str} {e:ME}:SX prog w T V Φ B Γ k (.app x e):=by
 intro sc st A env W₀ W ρ s₀ s res Q E hm rm f he h
 apply onSExpr_el hm;clear hm;intro c Z hm
 apply onCall_el hm;clear hm;intro g as ks p hm
 apply onAttribute_el hm;clear hm;intro o n ap hm
 apply onName_el hm;clear hm;intro y np hm
 apply on1_el hm;clear hm;intro v hm
 refine and7 hm fun hk hy hx hn hme hst hline=> ?_
 clear hm;obtain rfl:=nilB hk;obtain rfl:=eqB hy;obtain rfl:=eqB hn
 refine bindE he fun d hd he=>ownE he fun ds hl he=> ?_
 refine ea02 (iteE he) fun hsz Z1=> ?_;subst Z1
 refine rwl (PySem.exec_Expr env _ _ (not_inter f.st.es) (by rfl)) ?_
 refine wpAny_bind (wpAny_standAt (wpAny_bind ?_))
 refine ea35 (f.of x ds hx hl) fun a vs n h1 h2 h3 h4 h5=> ?_
 refine mcall (by refine rwl (starEach_cons hst) ?_;rfl) (by simp) hline (name_holds f.st.es hx h1 fun pl=> ?_)
 refine getMethod_list_append h4 rfl rfl ?_
 refine callWith_of (P:=fun Z=>True) (by refine rwl (starEach_cons hst) ?_;rfl) (fun h' Z=>⟨.machine,.inr (.inl rfl),keeper_mach fun a q=>by cases q⟩) ?_
 refine rwl (starEach_cons hst) ?_
 refine evalArgs_plain (PySem.Calls.spliced_cons ((all_se C e).1 sc v A env W ρ s d _ E hme rm f.st hd fun u s₁ x₁ r₁=>PySem.Calls.spliced_nil ⟨trivial,?_⟩))
 have f₁:=f.ext C.top x₁
 have h5':=h5.ext x₁
 refine wpAny_list_append_plain ⟨n,x₁.keep _ _ h4⟩ (fun h' hp hs'=> ?_) (by have:=h5.length;have:=le_size hsz;simp;exact le_of_eq_of_le (by assumption) this)
 refine ea11 hp fun n' hp=> ?_
 rw [show vs.toArray.push u=(vs++[u]).toArray by simp] at hp
 refine ea02 (f₁.change C.top (tk:=s₁.toks) (h1.keeps x₁.keep) h2 h3 hs' hp (h5'.append (.cons r₁ .nil))) fun f₂ mv=> ?_
 exact wpAny_pure (h W _ f₂ (x₁.mv.trans mv))
theorem sx_ins (C:Ctx prog w T V F Φ B k) {x:Str} {i e:ME}:SX prog w T V Φ B Γ k (.ins x i e):=by
 intro sc st A env W₀ W ρ s₀ s res Q E hm rm f he h
 apply onSExpr_el hm;clear hm;intro c Z hm
 apply onCall_el hm;clear hm;intro g as ks p hm
 apply onAttribute_el hm;clear hm;intro o n ap hm
 apply onName_el hm;clear hm;intro y np hm
 apply on2_el hm;clear hm;intro j v hm
 refine and4 hm fun hm hsj hsv hline=>and6 hm fun hk hy hx hn hmi hme=> ?_
 obtain rfl:=nilB hk;obtain rfl:=eqB hy;obtain rfl:=eqB hn
 refine bindE he fun di hdi he=>bindE he fun d hd he=>ownE he fun ds hl he=>intE he fun i' hi' he=> ?_
 refine ea02 (iteE he) fun hsz Z1=> ?_;subst Z1
 obtain rfl:=Option.some.inj hi'
 refine rwl (PySem.exec_Expr env _ _ (not_inter f.st.es) (by rfl)) ?_
 refine wpAny_bind (wpAny_standAt (wpAny_bind ?_))
 refine ea35 (f.of x ds hx hl) fun a vs n h1 h2 h3 h4 h5=> ?_
 have hse:starEach [j,v] env=[(false,eval j env),(false,eval v env)]:=by refine rwl (starEach_cons hsj) (rwl (starEach_cons hsv) ?_);rfl
 refine mcall (by refine rwl hse ?_;rfl) (by simp) hline (name_holds f.st.es hx h1 fun pl=> ?_)
 refine getMethod_list_of PySem.F.slot_list_insert PySem.F.type_list_insert (isList_of h4) (ns_list _ h4) ?_
 refine callWith_of (P:=fun Z=>True) (by refine rwl hse ?_;rfl) (fun h' Z=>⟨.machine,.inr (.inl rfl),keeper_mach fun a q=>by cases q⟩) ?_
 refine rwl hse ?_
 refine evalArgs_plain (PySem.Calls.spliced_cons ((all_se C i).1 sc j A env W ρ s _ _ E hmi rm f.st hdi fun iv s₁ x₁ r₁=> ?_))
 refine PySem.Calls.spliced_cons ((all_se C e).1 sc v A env W ρ s₁ d _ E hme rm (f.st.ext C.top x₁) hd fun u s₂ x₂ r₂=>PySem.Calls.spliced_nil ⟨trivial,?_⟩)
 apply r₁.int_el;intro t
 have x₁₂:=x₁.trans x₂
 have f₂:=f.ext C.top x₁₂
 have h5':=h5.ext x₁₂
 have h4':=x₁₂.keep _ _ h4
 have hlen:=h5.length
 refine call_meets PySem.F.slot_list_insert ⟨_,h4',rfl⟩ PySem.F.entry_list_insert (PySem.F.args_list_insert_3 _ _ _) (PySem.AutoSeq1.list_insert_list_int_val_1 a vs.toArray n i' t u (by simp [Builtin.List.listFitsIndex];exact H406 hsz.1 hsz.2.1 hsz.2.2) (by refine rwl sizeLine_eq ?_;simp;exact Nat.le_trans (Nat.le_of_eq hlen) (t2 hsz.2.2 rfl))) ⟨h4',?_⟩
 have hg:=PySem.IsL.update (h:=s₂.heap) (n:=n) h4' fun xs=>have k:=if i'<0 then (i'+(xs.size:Int)).toNat else min i'.toNat xs.size;(xs.extract 0 k).push u++xs.extract k
 have e1:(if i'<0 then (i'+(vs.toArray.size:Int)).toNat else min i'.toNat vs.toArray.size)=i'.toNat:=by
  refine rwl (if_neg (by exact Int.not_lt.2 hsz.1)) ?_
  simp;exact H408 hlen hsz.2.1
 have hs':=Heap.SameBut.update (h:=s₂.heap) (a:=a) (f:=Obj.mapSeq fun xs=>have k:=if i'<0 then (i'+(xs.size:Int)).toNat else min i'.toNat xs.size;(xs.extract 0 k).push u++xs.extract k)
 simp only [e1,kl_ins_eq] at hg
 refine ea02 (f₂.change C.top (tk:=s₂.toks) (h1.keeps x₁₂.keep) h2 h3 hs' hg ((h5'.take _).append (.cons r₂ (h5'.drop _)))) fun f₃ mv=> ?_
 exact wpAny_pure (h W _ f₃ (x₁₂.mv.trans mv))
theorem sx_retO {x:Str}:SX prog w T V Φ B Γ k (.retO x):=by
 intro sc st A env W₀ W ρ s₀ s res Q E hm rm f he h
 apply onSReturn_el hm;clear hm;intro o p hm
 apply onSome_el hm;clear hm;intro v hm
 apply onName_el hm;clear hm;intro y Z hm
 refine and2 hm fun hy hx=> ?_
 clear hm;obtain rfl:=eqB hy
 refine ownE he fun ds hl he=> ?_
 obtain rfl:=Option.some.inj he
 refine ea35 (f.of _ ds hx hl) fun a vs n h1 h2 h3 h4 h5=> ?_
 exact wpAny_Return_some (name_holds f.st.es hx h1 (h _ _ f.done (f.rep h3 h4 h5)))
theorem sx_retI (C:Ctx prog w T V F Φ B k) {c:ME} {x:Str} {e:ME}:SX prog w T V Φ B Γ k (.retI c x e):=by
 intro sc st A env W₀ W ρ s₀ s res Q E hm rm f he h
 apply onSReturn_el hm;clear hm;intro o p hm
 apply onSome_el hm;clear hm;intro v hm
 apply onIfExp_el hm;clear hm;intro t z o Z hm
 apply onName_el hm;clear hm;intro y Z hm
 refine and4 hm fun hy hx hmc hme=> ?_
 clear hm;obtain rfl:=eqB hy
 refine bindE he fun b hb he=>bindE hb fun cd hcd hb=> ?_
 refine wpAny_Return_some (wpAny_IfExp ((all_se C c).2 sc t A env W ρ s cd b _ E hmc rm f.st hcd hb fun s₁ x₁=> ?_))
 have f₁:=f.ext C.top x₁
 rcases b with _|_
 ·refine ea12 (Option.map_eq_some_iff.mp he) fun d hd Z2=> ?_;subst Z2
  exact (all_se C e).1 sc o A env W ρ s₁ d _ E hme rm f₁.st hd fun v s₂ x₂ r₂=>h v s₂ (f₁.ext C.top x₂).done (r₂.sub f.sub)
 ·refine ownE he fun ds hl he=> ?_
  obtain rfl:=Option.some.inj he
  refine ea35 (f₁.of _ ds hx hl) fun a vs n h1 h2 h3 h4 h5=> ?_
  exact name_holds f₁.st.es hx h1 (h _ _ f₁.done (f₁.rep h3 h4 h5))
theorem notTup_sw {v:Expr} (h:notTup v=true) (ts:List Expr) (k1:Nat) (p1:Pos):swappedStores [.Tuple ts k1 p1] v env=pure none:=by
 rcases v with _|_|_|_|_|_|_|_|_|_|_|_|_|_|_|_|_|_|_|_|_|_|_|_|_|_|_<;>first|rfl|exact ff h
theorem notTup_sole {v:Expr} (h:notTup v=true) (ts:List Expr) (k1:Nat) (p1:Pos) (l:Nat) (env:Env):swapsWithSole [.Tuple ts k1 p1] v l env=pure false:=by
 rcases v with _|_|_|_|_|_|_|_|_|_|_|_|_|_|_|_|_|_|_|_|_|_|_|_|_|_|_<;>first|rfl|exact ff h
theorem sx_unp (C:Ctx prog w T V F Φ B k) {x y:Str} {e:ME}:SX prog w T V Φ B Γ k (.unp x y e):=by
 intro sc st A env W₀ W ρ s₀ s res Q E hm rm f he h
 apply onSAssign_el hm;clear hm;intro ts v pos hm
 apply on1_el hm;clear hm;intro t hm
 apply onTuple_el hm;clear hm;intro l Z Z hm
 apply on2_el hm;clear hm;intro p q hm
 apply onName_el hm;clear hm;intro a Z hm
 apply onName_el hm;clear hm;intro b Z hm
 refine and6 hm fun ha hb hx hy hme hnt=> ?_
 clear hm;obtain rfl:=eqB ha;obtain rfl:=eqB hb
 refine bindE he fun d hd he=>twoE he fun d1 d2 hit he=> ?_
 obtain rfl:=Option.some.inj he
 refine PyProof.Rows.Assign_Tuple ((all_se C e).1 sc v A env W ρ s d _ E hme rm f.st hd fun v s₁ x₁ r₁=> ?_) (notTup_sole hnt _ _ _ _ _) (notTup_sw hnt _ _ _)
 refine rwl (assign_Tuple _ _ _ _) ?_
 refine wpAny_bind (wpAny_standAt ?_)
 refine unpack_two (W:=W) rm.hh r₁ hit fun v1 v2 s₂ x₂ r1 r2=> ?_
 refine wpAny_assign_Name (store_nm C.top (f.ext C.top (x₁.trans x₂)) hx r1 fun s₃ f₃ mv₃ c₃=> ?_)
 refine wpAny_assign_Name (store_nm C.top f₃ hy (r2.chg c₃ (f.ext C.top (x₁.trans x₂)).st.fr.blind) fun s₄ f₄ mv₄ c₄=> ?_)
 exact h W s₄ f₄ ((x₁.trans x₂).mv.trans (mv₃.trans mv₄))
theorem assign_Sub_eq (o i:Expr) (p:Pos) (env:Env) (v:Value):assign (.Subscript o i p) env v=(do
  let ov <- holding [v] (eval o env)
  let iv <- holding [v,ov] (eval i env)
  standAt p
  holding [v,ov,iv] (setItem ov iv v)
  release (match i with | .Slice _ _ none _=>[iv,v,ov]|_=>[v,ov,iv]) []):=rfl
theorem assign_item (C:Ctx prog w T V F Φ B k) {x:Str} {i:Expr} {m:ME} {xp p:Pos} {v:Value} {d:D} {ds:List D} {j:Int} {Q:Unit->Shared->Prop} (rm:Room A k) (f:Frm T V W₀ W env sc ρ s₀ s) (hx:okN sc x=true) (hm:mt m sc i=true)
  (hl:lk ρ x = .o ds) (hi:ev Φ B m ρ=some (.int j)) (h0:0<=j) (h1:j<ds.length) (hsz:ds.length<=1000) (r:Rep W s.heap v d)
  (h : ∀ s',Frm T V W₀ W env sc (setO ρ x (ds.set j.toNat d)) s₀ s'->Mv env W s W s'->(∀ v d,Rep W s.heap v d->Rep W s'.heap v d)->Q () s'):wpAny (model prog w) A (assign (.Subscript (.Name x xp) i p) env v) Q E s:=by
 refine ea35 (f.of _ ds hx hl) fun a vs n g1 g2 g3 g4 g5=> ?_
 refine rwl (assign_Sub_eq _ _ _ _ _) ?_
 refine wpAny_bind (wpAny_holding (name_holds f.st.es hx g1 ?_))
 refine wpAny_bind (wpAny_holding ((all_se C m).1 sc i A env W ρ s _ _ E hm rm f.st hi fun iv s₁ x₁ r₁=> ?_))
 apply r₁.int_el;intro t
 have hlen:=g5.length
 refine wpAny_bind (wpAny_standAt (wpAny_bind (wpAny_holding (ki_setAt (x₁.keep _ _ g4) h0 (by exact Int.lt_of_le_of_lt (Int.le_of_lt h1) (i63 hsz rfl)) (by simp;exact Eq.symm hlen▸h1) ?_))))
 have hg:=PySem.IsL.update (h:=s₁.heap) (n:=n) (x₁.keep _ _ g4) (·.setIfInBounds j.toNat v)
 rw [show vs.toArray.setIfInBounds j.toNat v=(vs.set j.toNat v).toArray by simp] at hg
 have hs':=Heap.SameBut.update (h:=s₁.heap) (a:=a) (f:=Obj.mapSeq (·.setIfInBounds j.toNat v))
 refine ea02 ((f.ext C.top x₁).change C.top (tk:=s₁.toks) (g1.keeps x₁.keep) g2 g3 hs' hg ((g5.ext x₁).set _ (r.ext x₁))) fun f₂ mv=> ?_
 have c:Chg (·= a) (fun Z=>False) s₁ { s₁ with heap:=s₁.heap.update a (Obj.mapSeq (·.setIfInBounds j.toNat v)),toks:=s₁.toks }:=Chg.one s₁.toks hs'
 refine wpAny_release (h _ f₂ (x₁.mv.trans mv) fun v d r=>(r.ext x₁).chg c fun b hb=>by cases hb;exact .inl g2)
theorem sx_its (C:Ctx prog w T V F Φ B k) {x:Str} {i1 i2 e1 e2:ME}:SX prog w T V Φ B Γ k (.its x i1 i2 e1 e2):=by
 intro sc st A env W₀ W ρ s₀ s res Q E hm rm f he h
 apply onSAssign_el hm;clear hm;intro ts w pos hm
 apply on1_el hm;clear hm;intro t hm
 apply onTuple_el hm;clear hm;intro l kk tp hm
 apply on2_el hm;clear hm;intro p q hm
 apply onSubscript_el hm;clear hm;intro a i ip hm
 apply onName_el hm;clear hm;intro a ap hm
 apply onSubscript_el hm;clear hm;intro b j jp hm
 apply onName_el hm;clear hm;intro b bp hm
 apply onTuple_el hm;clear hm;intro l kv vp hm
 apply on2_el hm;clear hm;intro u v hm
 refine and6 hm fun ha hb hx mi mj hm=>and4 hm fun mu mv nu nv=> ?_
 obtain rfl:=eqB ha;obtain rfl:=eqB hb
 refine bindE he fun v1 h1 he=>bindE he fun v2 h2 he=>ownE he fun ds hl he=>intE he fun ii hi he=> ?_
 have hb:=(iteO he).1
 refine intE (iteO he).2 fun jj hj he=> ?_
 refine ea02 (iteE he) fun hb2 Z1=> ?_;subst Z1
 have hsw:swappedStores [.Tuple [.Subscript (.Name x ap) i ip,.Subscript (.Name x bp) j jp] kk tp] (.Tuple [u,v] kv vp) env=pure none:=by
  unfold swappedStores
  simp only
  split
  ·rfl
  split
  ·rfl
  rfl
 refine PyProof.Rows.Assign_Tuple ?_ (by rfl) hsw
 have hml:mtL (.cons e1 (.cons e2 .nil)) sc [u,v]=true:=by show (notStar u&&mt e1 sc u&&(notStar v&&mt e2 sc v&&true))=true;refine rwl nu (rwl nv (rwl mu (rwl mv ?_)));rfl
 refine wpAny_Tuple ((all_sl C (.cons e1 (.cons e2 .nil))).1 sc [u,v] A env W ρ s [v1,v2] _ _ E hml rm f.st (by show ((ev Φ B e1 ρ).bind fun d=>_)=_;refine rwl h1 ?_;show (((ev Φ B e2 ρ).bind fun d=>_).map _)=_;refine rwl h2 ?_;rfl) fun us s₁ x₁ r₁=>⟨by have:=r₁.length;refine rwl sizeLine_eq ?_;simp at this;exact Eq.symm this▸Nat.le_of_ble_eq_true rfl,?_⟩)
 have f₁:=f.ext C.top x₁
 apply r₁.two_el;intro ua ub ra rb
 refine rwl (assign_Tuple _ _ _ _) ?_
 refine wpAny_bind (wpAny_standAt ?_)
 refine wpAny_unpack_tuple rm.hh ⟨_,Heap.get?_push_size _ rfl,rfl,_,rfl⟩ (by rfl) (by rfl) fun h' hk=> ?_
 have y:=Ext.push' s₁ { cls:= .type "tuple", data:= .seq [ua,ub].toArray }
 have x₂:Ext s₁ { s₁ with heap:=h' }:=Ext.heap s₁.toks fun b o e=>hk b o (Nat.ne_of_lt (Nat.lt_of_lt_of_le (Heap.lt_size e) (by show _<=(s₁.heap.push _).objs.size;refine rwl (Heap.size_push _ _) ?_;exact Nat.le_succ _))) (y.keep b o e)
 have f₂:=f₁.ext C.top x₂
 refine wpAny_assignInOrder_more (assign_item C rm f₂ (holds_ok hx) mi hl hi hb.1 hb.2.1 hb.2.2 (ra.ext x₂) fun s₃ f₃ mv₃ k₃=> ?_)
 have hl3:lk (setO ρ x (ds.set ii.toNat v1)) x = .o (ds.set ii.toNat v1):=by unfold setO;exact rwl (lk_upd _ _ _ _) (rwl (if_pos (beq_self_eq_true _)) rfl)
 refine wpAny_assignInOrder_more (assign_item C rm f₃ (holds_ok hx) mj hl3 hj hb2.1 (by simpa using hb2.2) (by simpa using hb.2.2) (k₃ _ _ (rb.ext x₂)) fun s₄ f₄ mv₄ k₄=> ?_)
 refine wpAny_assignInOrder_none (h W s₄ ?_ ((x₁.trans x₂).mv.trans (mv₃.trans mv₄)))
 refine f₄.weaken fun y=> ?_
 unfold setO
 refine rwl (lk_upd _ _ _ _) (rwl (lk_upd _ _ _ _) ?_)
 split
 ·exact .inr rfl
 ·refine rwl (lk_noOwn _ _) (rwl (lk_noOwn _ _) (rwl (lk_upd _ _ _ _) (rwl (lk_noOwn _ _) ?_)))
  rename_i q
  refine rwl (if_neg q) ?_
  rcases lk ρ y with _|_|_|_<;>first|exact .inl rfl|exact .inr rfl
theorem assign_tgF (C:TopS T F) {ρ':Loc} {tg:Tg} {t:Expr} {v:Value} {d:D} {Q:Unit->Shared->Prop} (hh:A.handled=none) (f:Frm T V W₀ W env sc ρ s₀ s) (ht:tgOk tg t=true) (hx:(tgNames tg).all (okS sc)=true) (r:Rep W s.heap v d) (hb:bindT tg d ρ=some ρ')
  (h : ∀ s',Frm T V W₀ W env sc ρ' s₀ s'->Mv env W s W s'->Q () s'):wpAny (model prog w) A (assign t env v) Q E s:=by
 rcases tg with x|xs
 ·apply tgn_el ht;clear ht;intro p
  obtain rfl:=Option.some.inj hb
  exact wpAny_assign_Name (store_nm C f (List.all_eq_true.mp hx _ List.mem_cons_self) r fun s' f' mv Z=>h s' f' mv)
 ·revert hx hb h
  apply tgt_el ht;clear ht;intro a1 a2 Z Z Z Z h hx hb
  refine ea22 (bindT2 hb) fun d1 d2 hds Z3=> ?_;subst Z3
  have hx:=List.all_eq_true.mp hx
  refine rwl (assign_Tuple _ _ _ _) ?_
  refine wpAny_bind (wpAny_standAt ?_)
  refine unpack_two (W:=W) hh r hds fun v1 v2 s₁ x₁ r1 r2=> ?_
  have f₁:=f.ext C x₁
  refine wpAny_assign_Name (store_nm C f₁ (hx _ List.mem_cons_self) r1 fun s₂ f₂ mv₂ c₂=> ?_)
  refine wpAny_assign_Name (store_nm C f₂ (hx _ (List.mem_cons_of_mem _ List.mem_cons_self)) (r2.chg c₂ f₁.st.fr.blind) fun s₃ f₃ mv₃ c₃=> ?_)
  exact h s₃ f₃ (x₁.mv.trans (mv₂.trans mv₃))
end
section
variable {prog:Program} {w:World} {T:Heap->Prop} {V:Value->Prop} {F:Str->Option Addr} {Φ B:Fns} {Γ:Gens} {k:Nat} {W₀ W W' W'':List Addr} {env:Env} {sc:Sc} {ρ:Loc} {s₀ s s' s'':Shared} {A:Around} {E:Value->Shared->Prop}
theorem ext_noGen (x:Ext s s') {j:Nat} (h:s'.gens[j]? = none):s.gens[j]? = none:=by
 rcases e:s.gens[j]? with _|o
 ·rfl
 ·rw [x.gen j o e] at h;exact nomatch h
theorem for_src (C:CtxG prog w T V F Φ B Γ k) {src:Src} {it:Expr} {e:ME} {d:D} {xs:List D} {Q:Value->Shared->Prop}
  (hm:mtSrc sc src it (mt e sc)=true)
  (rm:Room A k) (st:St T V W env sc ρ s) (he:ev Φ B e ρ=some d) (hx:srcS Γ src d=some xs)
  (h : ∀ I s' own G P,Ext s s'->(∀ b,own b->s.heap.get? b=none)->(∀ j,G j->s.gens[j]? = none)->Itr prog w T k I xs own G P->(∀ W' s'',(∀ b∈W',b∈W\/s'.heap.get? b=none)->Ext s' s''->P W' s'')->Q (.ref I) s') :
  wpAny (model prog w) A (eval it env) (fun x s₁=>wpAny (model prog w) A (pyIter x) Q E s₁) E s:=by
 have it : ∀ r,(if r then onRng sc it (mt e sc) else mt e sc it)=true->srcD r d=some xs->wpAny (model prog w) A (eval it env) (fun x s₁=>wpAny (model prog w) A (pyIter x) Q E s₁) E s:=fun r hm hx=>
  comp_src C.toCtx (r:=r) (all_se C.toCtx e).1 hm rm st he hx fun I s' St x hI hlt hit hst=>
   h I s' (·= I) (fun Z=>False) (fun W s=>St W 0 s) x (fun b hb=>hb▸hI) (fun Z q=>q.elim) ((hit T k).itr rm 0 (Nat.zero_le _)) hst
 rcases src with _|_|f
 ·exact it false hm hx
 ·exact it true hm hx
 ·clear it
  apply onCall_el hm;clear hm;intro c zs ks pos hm
  apply onName_el hm;clear hm;intro g Z hm
  apply on1_el hm;clear hm;intro y hm
  refine and6 hm fun hk hn hd hg hmy hst=> ?_
  clear hm;obtain rfl:=nilB hk;obtain rfl:=(eqB hn).symm
  refine ea12 (C.gn _ _ _ hx) fun a hF hc=> ?_
  obtain ⟨gl,o,fd,ho,hdt⟩:=C.top.fn _ st.tp _ _ hF
  refine wpAny_Call_Name_kw (name_glob st.es (eqB hg) (notB hd) gl ?_)
  refine callWith_of (P:=fun h=>h.get? a=some o) (by refine rwl (starEach_cons hst) ?_;rfl) (fun h' ho'=>⟨.frame,.inl rfl,keeper_fn ho' hdt⟩) ?_
  refine rwl (starEach_cons hst) ?_
  refine evalArgs_plain (PySem.Calls.spliced_cons ((all_se C.toCtx e).1 sc y A env W ρ s d _ E hmy rm st he fun v s₁ x₁ r₁=>PySem.Calls.spliced_nil ⟨x₁.keep _ _ ho,?_⟩))
  refine hc A s₁ W v Q E rm (C.top.mono _ _ st.tp x₁.keep) (st.sh.keeps x₁.keep) r₁ fun I s' own G P x h1 h2 hit hst'=> ?_
  exact h I s' own G P (x₁.trans x) (fun b hb=>x₁.none (h1 b hb)) (fun j hj=>ext_noGen x₁ (h2 j hj)) hit hst'
theorem gens_back {s₁ s₂:Shared} {G:Nat->Prop} (hc : ∀ (j:Nat) x,¬ G j->s₁.gens[j]? = some x->s₂.gens[j]? = some x) (hg : ∀ j:Nat,G j->s.gens[j]? = none) (hp : ∀ j:Nat,s₁.gens[j]? = none->s.gens[j]? = none) (j:Nat) (hj:s₂.gens[j]? = none):s.gens[j]? = none:=by
 by_cases q:G j
 ·exact hg j q
 ·rcases e:s₁.gens[j]? with _|o
  ·exact hp j e
  ·rw [hc j o q e] at hj;exact nomatch hj
inductive FI (prog:Program) (w:World) (T:Heap->Prop) (V:Value->Prop) (k:Nat) (I:Addr) (W₀ W:List Addr) (env:Env) (sc:Sc) (s₀ s:Shared) (run:List D->Loc->Prop):Nat->Shared->Prop
 | mk {n s'} (ys own G P W' ρ') (hn:n=ys.length+1) (itr:Itr prog w T k I ys own G P) (hown : ∀ a,own a->s.heap.get? a=none) (hG : ∀ j,G j->s.gens[j]? = none) (f:Frm T V W₀ W' env sc ρ' s₀ s') (mv:Mv env W s W' s') (st:P W' s') (hW : ∀ a∈W',¬ own a)
   (hgn : ∀ j:Nat,s'.gens[j]? = none->s.gens[j]? = none) (hr:run ys ρ'):FI prog w T V k I W₀ W env sc s₀ s run n s'
theorem ItC.move {I:Addr} {own:Addr->Prop} {G:Nat->Prop} {P:List Addr->Shared->Prop} (it:ItC prog w T I own G P) (st:P W s) (fr:FrameS env s.heap) (mv:Mv env W s W' s') (hT:T s'.heap)
  (hW : ∀ a∈W,¬ own a) (hS : ∀ a,own a -> ¬ Slots env a):P W' s' /\ ∀ a∈W',¬ own a:=by
 have st₁:=it.grow W W' s st mv.own
 refine ⟨it.frame W' s s' st₁ hT (fun b o hb e=>mv.chg.keep b o (fun q=> ?_) e) (fun j x hj e=>mv.chg.gen j x (fun q=>by rw [q] at e;exact nnE e) e),fun a ha q=> ?_⟩
 ·rcases q with q|q|q
  ·rcases hb with hb|⟨hb,hq⟩
   ·exact hS b hb q
   ·rcases fr.blind (W:=[]) b q with z|z
    ·exact nomatch z
    ·exact z o e hq
  ·rcases hb with hb|⟨hb,hq⟩
   ·exact hW b q hb
   ·exact hb (mv.sub b q)
  ·rw [q] at e;exact nnE e
 ·rcases mv.own a ha with z|z
  ·exact hW a z q
  ·refine ea11 (it.here W s a st q) fun o ho=> ?_
   rw [z] at ho;exact nnE ho
theorem sx_fr (C:CtxG prog w T V F Φ B Γ k) {tg:Tg} {src:Src} {e:ME} {body:MSs} (hbody:SXs prog w T V Φ B Γ k body):SX prog w T V Φ B Γ k (.fr tg src e body):=by
 intro sc st A env W₀ W ρ s₀ s res Q E hm rm f he h
 apply onSFor_el hm;clear hm;intro t it b el pos hm
 refine and5 hm fun hm htx hit hmb hsrc=>and2 hm fun hel htg=> ?_
 obtain rfl:=nilB hel
 refine bindE he fun d hd he=>bindE he fun xs hxs he=> ?_
 refine wpAny_For (for_src C hsrc rm f.st hd hxs fun I s₁ own G P x₁ hown hG itr hst=> ?_) (folded_no hit env)
 refine codeAny_forLoop_any (FI prog w T V k I W₀ W env sc s₀ s fun ys ρ'=>runFor tg (exs Φ B Γ body) ys ρ'=some res) ?_ (xs.length+1)
  (.mk xs own G P W ρ rfl itr hown hG (f.ext C.top x₁) x₁.mv (hst W s₁ (fun b hb=> .inl hb) (Ext.refl _)) (fun a ha q=>by refine ea21 (f.st.sh a ha) fun vs n e=> ?_;rw [hown a q] at e;exact nnE e) (fun Z hj=>ext_noGen x₁ hj) he)
 intro n s' hi
 obtain ⟨ys,own,G,P,W',ρ',rfl,itr,hown,hG,f',mv',st',hW',hgn,hrun⟩:=hi
 have hS : ∀ {own:Addr->Prop},(∀ a,own a->s.heap.get? a=none) -> ∀ a,own a -> ¬ Slots env a:=fun ho a ha q=>slots_live f.st.fr q (ho a ha)
 have step : ∀ s'',Chg own G s' s''->Frm T V W₀ W' env sc ρ' s₀ s''/\Mv env W s W' s'':=fun s'' c=>
  ⟨f'.chg' C.top c (fun a ha=>f.base (hown a ha)) (fun j hj=>f.baseG (hG j hj)) (hS hown) hW' fun a ha=> .inr (itr.c.blind W' s' st' a ha),mv'.step c hown hG⟩
 rcases ys with _|⟨y,ys⟩
 ·refine itr.2 A W' s' _ _ rm st' fun s₂ c₂=> ?_
  obtain rfl:=Option.some.inj hrun
  exact wpAny_execs_nil (h W' s₂ (step s₂ c₂).1 (step s₂ c₂).2)
 ·refine itr.2 A W' s' _ _ rm st' fun v s₂ own' G' P' itr' st₂ ho' hg' c₂ rv=> ?_
  have f₂:=(step s₂ c₂).1;have mv₂:=(step s₂ c₂).2
  have hown' : ∀ a,own' a->s.heap.get? a=none:=fun a ha=>(ho' a ha).elim (hown a) fun q=>mv'.live a q
  have hW₂ : ∀ a∈W',¬ own' a:=fun a ha q=>(ho' a q).elim (hW' a ha) fun z=>by
   refine ea21 (f'.st.sh a ha) fun vs n e=> ?_
   rw [z] at e;exact nnE e
  refine itr'.c.letgo A W' s₂ t v _ _ st₂ ?_
  refine bindE hrun fun ρ₁ hb hrun=>bindE hrun fun p hp hrun=> ?_
  refine assign_tgF C.top rm.hh f₂ htg htx (rv f₂.st.sh) hb fun s₃ f₃ mv₃=> ?_
  refine ea02 (itr'.c.move st₂ f₂.st.fr mv₃ f₃.st.tp hW₂ (hS hown')) fun st₃ hW₃=> ?_
  refine hbody sc b A env W₀ W' ρ₁ s₀ s₃ p _ _ hmb rm f₃ hp ?_
  obtain ⟨ρ₂,o⟩:=p
  rcases o with _|d'
  ·intro W'' s₄ f₄ mv₄
   refine ea02 (itr'.c.move st₃ f₃.st.fr mv₄ f₄.st.tp hW₃ (hS hown')) fun st₄ hW₄=> ?_
   have g2:=gens_back (s:=s) (G:=G) (fun j x=>c₂.gen j x) hG hgn
   have g3:=gens_back (s:=s) (G:=fun j=>s₂.gens[j]? = none) (fun j x=>mv₃.chg.gen j x) (fun j hj=>g2 j hj) g2
   exact ⟨ys.length+1,Nat.lt_succ_self _,ys,own',G',P',W'',ρ₂,rfl,itr',hown',fun j hj=>(hg' j hj).elim (hG j) (hgn j),f₄,mv₂.trans (mv₃.trans mv₄),st₄,hW₄,
    gens_back (G:=fun j=>s₃.gens[j]? = none) (fun j x=>mv₄.chg.gen j x) (fun j hj=>g3 j hj) g3,hrun⟩
  ·obtain rfl:=Option.some.inj hrun
   exact fun v' s₄ x₄ r₄=>h v' s₄ x₄ r₄
inductive WI (T:Heap->Prop) (V:Value->Prop) (W₀ W:List Addr) (env:Env) (sc:Sc) (s₀ s:Shared) (run:Nat->Loc->Prop):Nat->Shared->Prop
 | mk {n s'} (W' ρ') (f:Frm T V W₀ W' env sc ρ' s₀ s') (mv:Mv env W s W' s') (hr:run n ρ'):WI T V W₀ W env sc s₀ s run n s'
theorem sx_wh (C:CtxG prog w T V F Φ B Γ k) {m:Nat} {c:ME} {body:MSs} (hbody:SXs prog w T V Φ B Γ k body):SX prog w T V Φ B Γ k (.wh m c body):=by
 intro sc st A env W₀ W ρ s₀ s res Q E hm rm f he h
 apply onSWhile_el hm;clear hm;intro t b el pos hm
 refine and3 hm fun hel hmc hmb=> ?_
 clear hm;obtain rfl:=nilB hel
 refine wpAny_While ?_
 refine codeAny_whileLoop (WI T V W₀ W env sc s₀ s fun n ρ'=>runWh (fun ρ=>(ev Φ B c ρ).bind truD) (exs Φ B Γ body) n ρ'=some res) ?_ m ⟨W,ρ,f,Mv.refl env W s,he⟩
 intro n s' hi
 obtain ⟨W',ρ',f',mv',hrun⟩:=hi
 rcases n with _|n
 ·exact nnE hrun
 ·refine bindE hrun fun t' ht hrun=>bindE ht fun cd hcd ht=> ?_
  refine (all_se C.toCtx c).2 sc t A env W' ρ' s' cd t' _ _ hmc rm f'.st hcd ht fun s₁ x₁=> ?_
  have f₁:=f'.ext C.top x₁
  rcases t' with _|_
  ·obtain rfl:=Option.some.inj hrun
   exact wpAny_execs_nil (h W' s₁ f₁ (mv'.trans x₁.mv))
  ·refine bindE hrun fun p hp hrun=> ?_
   refine hbody sc b A env W₀ W' ρ' s₀ s₁ p _ _ hmb rm f₁ hp ?_
   obtain ⟨ρ₂,o⟩:=p
   rcases o with _|d'
   ·exact fun W'' s₂ f₂ mv₂=>⟨n,Nat.lt_succ_self n,W'',ρ₂,f₂,mv'.trans (x₁.mv.trans mv₂),hrun⟩
   ·obtain rfl:=Option.some.inj hrun
    exact fun v' s₂ x₂ r₂=>h v' s₂ x₂ r₂
mutual
theorem all_sx (C:CtxG prog w T V F Φ B Γ k) : ∀ m:MS,SX prog w T V Φ B Γ k m
 | .asg x e=>sx_asg C.toCtx
 | .asgO x e=>sx_asgO C.toCtx
 | .asgI x c e=>sx_asgI C.toCtx
 | .tup xs=>sx_tup C.toCtx
 | .unp x y e=>sx_unp C.toCtx
 | .its x i1 i2 e1 e2=>sx_its C.toCtx
 | .app x e=>sx_app C.toCtx
 | .ins x i e=>sx_ins C.toCtx
 | .aug x op e=>sx_aug C.toCtx
 | .ite c a b=>sx_ite C.toCtx (all_sxs C a) (all_sxs C b)
 | .ret e=>sx_ret C.toCtx
 | .retO x=>sx_retO
 | .retI c x e=>sx_retI C.toCtx
 | .fr tg src e body=>sx_fr C (all_sxs C body)
 | .wh n c body=>sx_wh C (all_sxs C body)
theorem all_sxs (C:CtxG prog w T V F Φ B Γ k) : ∀ ms:MSs,SXs prog w T V Φ B Γ k ms
 | .nil=>sxs_nil
 | .cons s r=>sxs_cons (all_sx C s) (all_sxs C r)
end
end
theorem bindL_keep {kindOf:Str->Option NameKind} {x:Str} : ∀ (binds:List (Str×Value)) (m:Str->Option Value),x∉binds.map (·.1)->bindL kindOf binds m x=m x
 | [],m,_=>rfl
 | (n,v)::r,m,h=>by
  rw [List.map_cons,List.mem_cons,not_or] at h
  unfold bindL
  refine rwl (bindL_keep r _ h.2) ?_
  split
  ·exact if_neg h.1
  ·rfl
theorem bindL_get {kindOf:Str->Option NameKind} {x:Str} {v:Value} (hx:kindOf x=some .local) : ∀ (binds:List (Str×Value)) (m:Str->Option Value),(binds.map (·.1)).Nodup->(x,v)∈binds->bindL kindOf binds m x=some v
 | (n,u)::r,m,hn,h=>by
  rw [List.map_cons,List.nodup_cons] at hn
  unfold bindL
  rcases List.mem_cons.mp h with q|q
  ·cases q
   refine rwl (bindL_keep r _ hn.1) ?_;rw [if_pos hx];exact rwl (if_pos rfl) rfl
  ·exact bindL_get hx r _ hn.2 q
theorem bindC_keep {kindOf:Str->Option NameKind} {x:Str} : ∀ (binds:List (Str×Value)) (m:Str->Option Value),x∉binds.map (·.1)->bindC kindOf binds m x=m x
 | [],m,_=>rfl
 | (n,v)::r,m,h=>by
  rw [List.map_cons,List.mem_cons,not_or] at h
  unfold bindC
  refine rwl (bindC_keep r _ h.2) ?_
  split
  ·rfl
  ·exact if_neg h.1
theorem bindC_get {kindOf:Str->Option NameKind} {x:Str} {v:Value} (hx : ¬ kindOf x=some .local) : ∀ (binds:List (Str×Value)) (m:Str->Option Value),(binds.map (·.1)).Nodup->(x,v)∈binds->bindC kindOf binds m x=some v
 | (n,u)::r,m,hn,h=>by
  rw [List.map_cons,List.nodup_cons] at hn
  unfold bindC
  rcases List.mem_cons.mp h with q|q
  ·cases q
   refine rwl (bindC_keep r _ hn.1) ?_;rw [if_neg hx];exact rwl (if_pos rfl) rfl
  ·exact bindC_get hx r _ hn.2 q
noncomputable def locOf:List Str->List D->Loc
 | x::xs,d::ds=>(x,.d d)::locOf xs ds
 | _,_=>[]
theorem locOf_get {W:List Addr} {h:Heap} {x:Str} {b:Bd} : ∀ (ps:List Str) (vs:List Value) (ds:List D),RepL W h vs ds->ps.length=vs.length->lk (locOf ps ds) x=b->b = .un \/ ∃ v d,b = .d d/\(x,v)∈ps.zip vs/\Rep W h v d
 | [],_,_,_,_,e=>by simp [locOf,lk] at e;exact .inl e.symm
 | p::ps,_,_,.nil,hl,e=>by simp at hl
 | p::ps,_,_,.cons (v:=v) (d:=d) (vs:=vs) (ds:=ds) r rl,hl,e=>by
  unfold locOf lk at e
  split at e
  ·rename_i q
   right
   refine ⟨v,d,e.symm,?_,r⟩
   refine lwr (beq_iff_eq.mp q) ?_
   exact List.mem_cons_self
  ·rcases locOf_get ps vs ds rl (by simpa using hl) e with q|⟨v',d',h1,h2,h3⟩
   ·exact .inl q
   ·exact .inr ⟨v',d',h1,List.mem_cons_of_mem _ h2,h3⟩
section
variable {prog:Program} {w:World} {T:Heap->Prop} {V:Value->Prop} {F:Str->Option Addr} {Φ B:Fns} {Γ:Gens} {k:Nat}
theorem Room.deeper {A:Around} {k:Nat} (r:Room A (k+1)) (env:Env):Room (A.deeper env) k:=⟨r.hh,by have:=r.dp;show A.depth+1+k<_;exact H23 this,by have:=r.un;have e:(A.deeper env).units=A.units+3:=rfl;exact H24 e this⟩
structure FnIs (T:Heap->Prop) (a:Addr) (fd:FuncData) (params:List Str) (body:List Stmt):Prop where
 at' : ∀ h,T h -> ∃ o,h.get? a=some o/\o.data = .func fd
 lim : ∀ h,T h->h.NoLimit
 cd : ∀ h,T h->h.CodeRec fd.code fd.qualname
 bd:fd.body = .stmts body
 bind : ∀ vals:List Value,vals.length=params.length->bindArgs fd ⟨vals,[]⟩=pure (params.zip vals)
 clo:fd.closure=[]
 gl:fd.globals=mainGlobals
 bl:fd.builtins=builtinsNs
 co:fd.scope.isCoroutine=false
 kd:fd.scope.kind = .function
 nofree:fd.scope.names.all (fun x=> !(x.2 == .free))=true
 nd:params.Nodup
 ps:params.all (okS fd.scope.names)=true
theorem call_frame {a:Addr} {fd:FuncData} {params:List Str} {body:List Stmt} (I:FnIs T a fd params body) {W:List Addr} {vs:List Value} {ds:List D} {s s₁:Shared} (hT:T s.heap) (hW:Shut W s.heap) (C:TopS T F) (r:RepL W s.heap vs ds) (hl:vs.length=params.length)
  (x:InCallC s (callEnvC fd s.heap.objs.size a).locals (bindL (callEnvC fd s.heap.objs.size a).kindOf (params.zip vs) fun Z=>none) (callEnvC fd s.heap.objs.size a).cells
    (bindC (callEnvC fd s.heap.objs.size a).kindOf (params.zip vs) fun Z=>none) s₁) :
  Frm T V W W (callEnvC fd s.heap.objs.size a) fd.scope.names (locOf params ds) s s₁:=by
 have xx:Ext s s₁:=by
  refine ea21 x.toInCall.same fun h' tk Z2=> ?_;subst Z2
  exact Ext.heap tk x.toInCall.keep
 have es:EnvS (callEnvC fd s.heap.objs.size a) fd.scope.names:=by
  refine ⟨I.kd,I.gl,I.bl,fun y hy=>hy,fun y hy=>⟨hy,cellsFrom_has _ _ _ (mem_of_lookup hy)⟩,fun y hy=> ?_,fun y hy=>hy⟩
  have:=List.all_eq_true.mp I.nofree _ (mem_of_lookup hy)
  simp at this
 have fr:FrameS (callEnvC fd s.heap.objs.size a) s₁.heap:=⟨⟨_,x.toInCall.ns⟩,fun y c hc=>⟨_,x.cell y c hc⟩,fun y z c hy hz=>name_of_addr x.apart (mem_of_lookup hy) (mem_of_lookup hz)⟩
 have hnd:((params.zip vs).map (·.1)).Nodup:=by refine rwl (List.map_fst_zip (Nat.le_of_eq hl.symm)) ?_;exact I.nd
 have r₁:=r.ext xx
 have noO : ∀ y ds',lk (locOf params ds) y ≠ .o ds':=fun y ds' e=>by
  rcases locOf_get params vs ds r hl.symm e with q|⟨v,d,q,_⟩<;>cases q
 have noV : ∀ y u,lk (locOf params ds) y ≠ .v u:=fun y u e=>by
  rcases locOf_get params vs ds r hl.symm e with q|⟨v,d,q,_⟩<;>cases q
 refine ⟨⟨es,hW.keeps xx.keep,C.mono _ _ hT xx.keep,⟨fun y d hy e=> ?_,fun y ds' hy e=>absurd e (noO y ds'),fun y u hy e=>absurd e (noV y u)⟩,fr,fun y u e=>absurd e (noV y u)⟩,⟨hT,hW⟩,xx.chg,fun a h=> .inl h,fun a h=>h,fun b hb=> ?_,fun y ds' hy e=>absurd e (noO y ds')⟩
 ·rcases locOf_get params vs ds r₁ hl.symm e with q|⟨v,d',q,hm,rv⟩
  ·cases q
  ·cases q
   refine ⟨v,?_,rv⟩
   by_cases hk:(callEnvC fd s.heap.objs.size a).kindOf y=some .local
   ·exact .inl ⟨hk,_,x.toInCall.ns,bindL_get hk _ _ hnd hm⟩
   ·have hp:y∈params:=by
     have:=List.of_mem_zip hm;exact this.1
    have hs:=List.all_eq_true.mp I.ps y hp
    rcases okS_hx hs with z|z
    ·exact absurd z hk
    ·refine ea11 (cellsFrom_has fd.scope.names (s.heap.objs.size+1) y (mem_of_lookup z)) fun c hc=> ?_
     have:=x.cell y c hc
     rw [bindC_get hk _ _ hnd hm] at this
     exact .inr ⟨.inl z,c,hc,this⟩
 ·rcases hb with rfl|⟨y,hy⟩
  ·exact get?_lt x.toInCall.fresh
  ·have:=x.above y b (mem_of_lookup hy)
   exact get?_lt (Nat.le_of_lt (Nat.lt_of_le_of_lt x.toInCall.fresh this))
theorem fn_ok (C:CtxG prog w T V F Φ B Γ k) {a:Addr} {fd:FuncData} {params:List Str} {body:List Stmt} (I:FnIs T a fd params body) (hgen:fd.scope.isGenerator=false) {ms:MSs} {ds:List D} {d:D} {ρ':Loc}
  (hm:mtSs ms fd.scope.names body=true) (he:exs Φ B Γ ms (locOf params ds)=some (ρ',some d)) (hlen:ds.length=params.length)
  (A:Around) (s:Shared) (W:List Addr) (vs:List Value) (rm:Room A (k+1)) (hT:T s.heap) (hW:Shut W s.heap) (r:RepL W s.heap vs ds) :
  codeAny (model prog w) A (.call (.ref a) ⟨vs,[]⟩) (fun r s'=> ∃ v,r = .ok (.ret v)/\Ext s s'/\Rep W s'.heap v d) s:=by
 obtain ⟨o,ho,hdata⟩:=I.at' _ hT
 have hl:vs.length=params.length:=by exact rwl r.length (rwl hlen rfl)
 refine codeAny_call_cells (by have:=rm.dp;exact Nat.lt_of_add_right_lt this) ho hdata (I.lim _ hT) (I.cd _ hT) I.bd (I.bind vs hl) I.clo (fun x hx=> ?_) (fun s₁ x=> ?_) I.co hgen I.kd
 ·have hp:x.1∈params:=(List.of_mem_zip hx).1
  have hs:=List.all_eq_true.mp I.ps _ hp
  rcases okS_hx hs with z|z
  ·exact .inl z
  ·refine ea11 (cellsFrom_has fd.scope.names (s.heap.objs.size+1) x.1 (mem_of_lookup z)) fun c hc=> ?_
   exact .inr ⟨z,by refine rwl hc ?_;rfl⟩
 ·have f:=call_frame (V:=V) I hT hW C.top r hl x
  exact all_sxs C ms fd.scope.names body (A.deeper _) _ W W _ s s₁ (ρ',some d) _ _ hm (rm.deeper _) f he fun v s' y rv=>⟨v,rfl,y,rv⟩
end
noncomputable def smallInts:List Int->Bool
 | []=>true
 | i::r=>decide (0<=i/\i<1000000000)&&smallInts r
noncomputable def valOf (is:List Int) (j:Nat):Int:=is.getD j 0
noncomputable def maxUpTo (val:Nat->Int):Nat->Int
 | 0=>val 0
 | k+1=>if val (k+1)>maxUpTo val k then val (k+1) else maxUpTo val k
noncomputable def lenB:D->Option D
 | .list xs=>if xs.length<=szL then some (.int xs.length) else none
 | .str x=>if x.length<=szL then some (.int x.length) else none
 | _=>none
noncomputable def sumB:D->Option D
 | .list xs=>(intsOf xs).bind fun is=>if smallInts is&&decide (is.length<=1000) then some (.int (preSum (valOf is) is.length)) else none
 | _=>none
noncomputable def maxB:D->Option D
 | .list xs=>(intsOf xs).bind fun is=>if 0<is.length then some (.int (maxUpTo (valOf is) (is.length-1))) else none
 | _=>none
noncomputable def strB:D->Option D
 | .int i=>if 0<=i/\i<100 then some (.str (Str.ofString (toString i))) else none
 | .bool b=>some (.str (if b then "True" else "False"))
 | _=>none
noncomputable def digB (x:Str):Option Int:=
 if x==("0" : Str) then some 0 else if x==("1" : Str) then some 1 else if x==("2" : Str) then some 2 else if x==("3" : Str) then some 3 else
 if x==("4" : Str) then some 4 else if x==("5" : Str) then some 5 else if x==("6" : Str) then some 6 else if x==("7" : Str) then some 7 else none
noncomputable def intB:D->Option D
 | .str x=>(digB x).map .int
 | _=>none
noncomputable def joinB (sep:Str):D->Option D
 | .list xs=>(strsOf xs).bind fun ys=>if sep.length<=16/\(ys.map (·.length)).sum+ys.length<=1048576 then some (.str (Txt.join sep ys)) else none
 | _=>none
theorem ints_rep {W:List Addr} {h:Heap} : ∀ {vs:List Value} {xs:List D} {is:List Int},RepL W h vs xs->intsOf xs=some is->is.length=vs.length /\ ∀ (j:Nat) (v:Value),vs[j]? = some v -> ∃ t,v=Value.int (valOf is j) t
 | _,_,is,.nil,e=>by simp only [intsOf,Option.some.injEq] at e;subst e;exact ⟨rfl,fun j v h=>by simp at h⟩
 | _,_,is,.cons (d:=d) r rl,e=>by
  cases r with
  | int i t=>
   refine ea12 (Option.map_eq_some_iff.mp e) fun is' h' Z2=> ?_;subst Z2
   refine ea02 (ints_rep rl h') fun i1 i2=> ?_
   refine ⟨by simp [i1],fun j v h=> ?_⟩
   rcases j with _|j
   ·simp only [List.getElem?_cons_zero,Option.some.injEq] at h;subst h;exact ⟨t,rfl⟩
   ·simp only [List.getElem?_cons_succ] at h;refine ea11 (i2 j v h) fun t' q=> ?_;exact ⟨t',by refine rwl q ?_;simp [valOf]⟩
  | _=>simp [intsOf] at e
theorem strs_rep {W:List Addr} {h:Heap} : ∀ {vs:List Value} {xs:List D} {ys:List Str},RepL W h vs xs->strsOf xs=some ys->StrsAre vs ys /\ ∀ y∈ys,strA y=true
 | _,_,is,.nil,e=>by simp only [strsOf,Option.some.injEq] at e;subst e;exact ⟨.nil,fun Z h=>(nomatch h)⟩
 | _,_,is,.cons (d:=d) r rl,e=>by
  cases r with
  | str x t ha=>
   refine ea12 (Option.map_eq_some_iff.mp e) fun is' h' Z2=> ?_;subst Z2
   refine ea02 (strs_rep rl h') fun i1 i2=> ?_
   refine ⟨.cons _ _ i1,fun y hy=> ?_⟩
   rcases List.mem_cons.mp hy with rfl|hy
   ·exact ha
   ·exact i2 y hy
  | _=>simp [strsOf] at e
theorem small_val : ∀ {is:List Int},smallInts is=true -> ∀ j,0<=valOf is j/\valOf is j<1000000000
 | [],_,j=>by simp [valOf]
 | i::r,h,j=>by
  simp only [smallInts,Bool.and_eq_true,decide_eq_true_eq] at h
  rcases j with _|j
  ·simpa [valOf] using h.1
  ·have:=small_val h.2 j;simpa [valOf] using this
theorem preSum_le {val:Nat->Int} (h : ∀ j,0<=val j/\val j<1000000000) : ∀ n,0<=preSum val n/\preSum val n<=n*1000000000
 | 0=>by simp [preSum]
 | n+1=>by
  have:=preSum_le h n
  have:=h n
  simp only [preSum]
  exact G400 (by assumption) this.1 this.2
theorem argBest_max (val:Nat->Int) : ∀ k,val (argBest (fun i j=>decide (val i>val j)) k)=maxUpTo val k
 | 0=>rfl
 | k+1=>by
  have ih:=argBest_max val k
  simp only [argBest,maxUpTo]
  by_cases h:val (k+1)>maxUpTo val k
  ·rw [if_pos h,if_pos (by refine rwl ih ?_;simpa using h)]
  ·rw [if_neg h,if_neg (by refine rwl ih ?_;simpa using h)];exact ih
section
variable {prog:Program} {w:World} {A:Around} {E:Value->Shared->Prop} {s:Shared} {W:List Addr} {v:Value} {d₁ d:D} {Q:Value->Shared->Prop}
theorem ext_iter {o:Obj} {h':Heap} {tk:Nat} {g:Array GenState} (hk : ∀ b o',b∉[s.heap.objs.size]->(s.heap.push o).get? b=some o'->h'.get? b=some o'):Ext s { s with heap:=h',toks:=tk }:=
 Ext.heap tk fun b o' e=>hk b o' (by simp;exact Nat.ne_of_lt (Heap.lt_size e)) (Heap.get?_push_of_some _ e)
set_option tactic.hygienic true in
theorem b_len (rv:Seq1 W s.heap v d₁) (e:lenB d₁=some d) (h:Gives s W d Q):wpAny (model prog w) A (call (.builtin "len") [v]) Q E s:=by
 unfold lenB at e
 split at e
 ·rename_i xs
  split at e
  ·rename_i hl
   simp only [Option.some.injEq] at e;subst e
   refine ea33 rv.list fun a vs n Z3 ea ra=> ?_;subst Z3
   have len:=ra.length
   refine call_len_list (isList_of ea) (by have:=lt63 hl;simp;exact i63 (Nat.le_trans (Nat.le_of_eq len) hl) rfl) ?_
   have:=h (.int vs.toArray.size (s.toks+1)) { s with toks:=s.toks+1+1 } (Ext.toks s _)
   simp only [List.size_toArray,len] at this ⊢
   exact this (.int _ _)
  ·exact nnE e
 ·rename_i x
  split at e
  ·rename_i hl
   simp only [Option.some.injEq] at e;subst e
   cases rv.rep (by intro ds z;exact nomatch z) with
   | str _ t ha=>
    refine P.len_str (by have:=lt63 hl;exact Int.not_le.2 this) (h _ _ (Ext.toks s _) (.int _ _))
  ·exact nnE e
 ·exact nnE e
set_option tactic.hygienic true in
theorem b_sum (hh:A.handled=none) (rv:Seq1 W s.heap v d₁) (e:sumB d₁=some d) (h:Gives s W d Q):wpAny (model prog w) A (call (.builtin "sum") [v]) Q E s:=by
 unfold sumB at e
 split at e
 ·rename_i xs
  refine ea12 (Option.bind_eq_some_iff.mp e) fun is his e=> ?_
  split at e
  ·rename_i hc
   simp only [Bool.and_eq_true,decide_eq_true_eq] at hc
   simp only [Option.some.injEq] at e;subst e
   refine ea33 rv.list fun a vs n Z3 ea ra=> ?_;subst Z3
   refine ea02 (ints_rep ra his) fun l1 l2=> ?_
   refine call_sum_walk (wpAny_pyIter_list (isList_of ea) ?_)
   have hne:a≠s.heap.objs.size:=Nat.ne_of_lt (Heap.lt_size ea)
   have sm:=small_val hc.1
   refine ⟨s.heap.objs.size,_,_,_,_,_,valOf is,rfl,Walks.list (A:=A.in1) hh s.heap.objs.size a hne vs.toArray,⟨⟨_,Heap.get?_push_size _ rfl,rfl,rfl⟩,isList_of (Heap.get?_push_of_some _ ea)⟩,?_,?_,?_,?_⟩
   ·intro b hb
    have hlt:=Heap.lt_size ea
    simp only [List.mem_cons,List.not_mem_nil,or_false] at hb
    show b<(s.heap.push _).objs.size
    refine rwl (Heap.size_push _ _) ?_
    rcases hb with rfl|rfl
    ·exact Nat.lt_succ_self _
    ·exact Nat.lt_succ_of_lt hlt
   ·intro i v hv
    exact l2 i v (by simpa using hv)
   ·intro j hj
    have h1:=sm j
    have h2:=preSum_le sm (j+1)
    have h3:j<1000:=by simp at hj;exact H409 hj l1 hc.2
    constructor
    ·unfold InLong;exact H410 h1.1 h1.2
    ·unfold InLong;exact H501 h2.1 h2.2 h3
   ·intro h' tk t' hk
    have x:Ext s { s with heap:=h',toks:=tk }:=ext_iter (g:=s.gens) hk
    have:=h (.int (preSum (valOf is) vs.toArray.size) t') _ x
    simp only [List.size_toArray,l1] at this ⊢
    exact this (.int _ _)
  ·exact nnE e
 ·exact nnE e
set_option tactic.hygienic true in
theorem b_max (hh:A.handled=none) (rv:Seq1 W s.heap v d₁) (e:maxB d₁=some d) (h:Gives s W d Q):wpAny (model prog w) A (call (.builtin "max") [v]) Q E s:=by
 unfold maxB at e
 split at e
 ·rename_i xs
  refine ea12 (Option.bind_eq_some_iff.mp e) fun is his e=> ?_
  split at e
  ·rename_i hc
   simp only [Option.some.injEq] at e;subst e
   refine ea33 rv.list fun a vs n Z3 ea ra=> ?_;subst Z3
   refine ea02 (ints_rep ra his) fun l1 l2=> ?_
   refine call_max_walk (wpAny_pyIter_list (isList_of ea) ?_)
   have hne:a≠s.heap.objs.size:=Nat.ne_of_lt (Heap.lt_size ea)
   refine ⟨s.heap.objs.size,_,_,_,_,_,fun i j=>decide (valOf is i>valOf is j),rfl,Walks.list (A:=A.in1) hh s.heap.objs.size a hne vs.toArray,⟨⟨_,Heap.get?_push_size _ rfl,rfl,rfl⟩,isList_of (Heap.get?_push_of_some _ ea)⟩,?_,?_,?_,?_⟩
   ·intro b hb
    have hlt:=Heap.lt_size ea
    simp only [List.mem_cons,List.not_mem_nil,or_false] at hb
    show b<(s.heap.push _).objs.size
    refine rwl (Heap.size_push _ _) ?_
    rcases hb with rfl|rfl
    ·exact Nat.lt_succ_self _
    ·exact Nat.lt_succ_of_lt hlt
   ·simp;exact Nat.lt_of_lt_of_eq hc l1
   ·intro i j vi vj s' Q' E' hi hj hq
    refine ea11 (l2 i vi (by simpa using hi)) fun t1 Z1=> ?_;subst Z1
    refine ea11 (l2 j vj (by simpa using hj)) fun t2 Z1=> ?_;subst Z1
    exact SiftDown.gt_int hq
   ·intro u h' tk hP hk
    have x:Ext s { s with heap:=h',toks:=tk }:=ext_iter (g:=s.gens) hk
    refine ea11 (l2 _ u (by simpa using hP)) fun t Z1=> ?_;subst Z1
    have e2:=argBest_max (valOf is) (vs.length-1)
    rw [show vs.length-1=is.length-1 by exact rwl l1 rfl] at e2
    have e3:vs.toArray.size-1=is.length-1:=by refine rwl l1 ?_;rfl
    have:=h (.int (valOf is (argBest (fun i j=>decide (valOf is i>valOf is j)) (is.length-1))) t) _ x (by refine rwl e2 ?_;exact .int _ _)
    rw [<- e3] at this
    exact this
  ·exact nnE e
 ·exact nnE e
theorem strA_join {sep:Str} (hs:strA sep=true) : ∀ {ys:List Str},(∀ y∈ys,strA y=true)->strA (Txt.join sep ys)=true:=by
 intro ys h
 unfold Txt.join
 refine rwl (StrLaws.glued_eq_join _ _) ?_
 induction ys with
 | nil=>exact (by decide +kernel:strA Str.empty=true)
 | cons y r ih=>
  rcases r with _|⟨z,r⟩
  ·exact h y List.mem_cons_self
  ·show strA (y++sep++Str.join sep (z::r))=true
   exact strA_append (strA_append (h y List.mem_cons_self) hs) (ih fun q hq=>h q (List.mem_cons_of_mem _ hq))
theorem strA_dec (i:Int) (h0:0<=i) (h1:i<100):strA (Str.ofString (toString i))=true:=by
 have : ∀ n:Nat,n<100->strA (Str.ofString (toString (n:Int)))=true:=by decide +kernel
 have e:i=((i.toNat:Nat):Int):=by exact Eq.symm (Int.toNat_of_nonneg h0)
 refine rwl e ?_;exact this _ (by exact H411 h0 h1)
set_option tactic.hygienic true in
theorem b_str (rv:Seq1 W s.heap v d₁) (e:strB d₁=some d) (h:Gives s W d Q):wpAny (model prog w) A (call (.type "str") [v]) Q E s:=by
 unfold strB at e
 split at e
 ·rename_i i
  split at e
  ·rename_i hc
   simp only [Option.some.injEq] at e;subst e
   cases rv.rep (by intro ds z;exact nomatch z) with
   | int _ t=>
    refine P.str_of_int ?_ (h _ _ (Ext.toks s _) (.str _ _ (strA_dec i hc.1 hc.2)))
    have:i.natAbs<2^10:=by exact t2 (na (And.intro hc.1 hc.2)) rfl
    have h2:i.natAbs.log2<11:=by
     by_cases h0:i.natAbs=0
     ·refine rwl h0 ?_;decide
     ·have:=(Nat.log2_lt h0).mpr (show i.natAbs<2^11 by exact t2 this rfl)
      exact this
    exact Nat.lt_of_lt_of_le h2 (Nat.le_of_ble_eq_true rfl)
  ·exact nnE e
 ·rename_i b
  simp only [Option.some.injEq] at e;subst e
  cases rv.rep (by intro ds z;exact nomatch z) with
  | bool _=>exact P.str_of_bool (h _ _ (Ext.toks s _) (.str _ _ (by rcases b with _|_<;>decide +kernel)))
 ·exact nnE e
set_option tactic.hygienic true in
theorem b_int (rv:Seq1 W s.heap v d₁) (e:intB d₁=some d) (h:Gives s W d Q):wpAny (model prog w) A (call (.type "int") [v]) Q E s:=by
 unfold intB at e
 split at e
 ·rename_i x
  refine ea12 (Option.map_eq_some_iff.mp e) fun i hi Z2=> ?_;subst Z2
  cases rv.rep (by intro ds z;exact nomatch z) with
  | str _ t ha=>
   have key:PySem.intText? x=some i/\x.length<=640:=by
    unfold digB at hi
    repeat' (split at hi)
    all_goals first
     | (rename_i q;rw [beq_iff_eq] at q;subst q;obtain rfl:=Option.some.inj hi;exact ⟨by decide +kernel,by decide +kernel⟩)
     | exact nnE hi
   exact KIN.call_text key.1 key.2 (h _ _ (Ext.toks s _) (.int _ _))
 ·exact nnE e
set_option tactic.hygienic true in
theorem b_join {sep:Str} {t:Tok} (rv:Seq1 W s.heap v d₁) (hs:strA sep=true) (e:joinB sep d₁=some d) (h:Gives s W d Q):wpAny (model prog w) A (call (.builtin "str.join") [.str sep t,v]) Q E s:=by
 unfold joinB at e
 split at e
 ·rename_i xs
  refine ea12 (Option.bind_eq_some_iff.mp e) fun ys hys e=> ?_
  split at e
  ·rename_i hc
   simp only [Option.some.injEq] at e;subst e
   refine ea33 rv.list fun a vs n Z3 ea ra=> ?_;subst Z3
   refine ea02 (strs_rep ra hys) fun l1 l2=> ?_
   exact join_listW (isList_of ea) l1 hc.1 hc.2 fun t' k=>h _ _ (Ext.toks s _) (.str _ _ (strA_join hs l2))
  ·exact nnE e
 ·exact nnE e
end
noncomputable def Abig (k:Nat):Around:={ handled:=none,depth:=recursionLimit-k-1,units:=cLine-10*k-201 }
theorem in_big {A:Around} {k:Nat} (rm:Room A k) {Γ:PySem.Ctx} (h:Γ.In A):Γ.In (Abig k):=by
 have h1:=h.1;have h2:=h.2.1;have h3:=h.2.2.1;have h4:=h.2.2.2.1;have h5:=h.2.2.2.2
 refine ⟨h1.trans rm.hh,Nat.le_trans h2 ?_,fun l q=>(nomatch q),fun g q=>(nomatch q),Nat.le_trans h5 ?_⟩
 ·have:=rm.dp;show A.depth<=recursionLimit-k-1;exact H37 this
 ·have:=rm.un;show A.units<=cLine-10*k-201;exact H38 this
theorem wpAny_big {M:Model} {α:Type} {A:Around} {k:Nat} (rm:Room A k) {t:Sem α} {Q:α->Shared->Prop} {E:Value->Shared->Prop} {s:Shared} (h:wpAny M (Abig k) t Q E s):wpAny M A t Q E s:=
 fun Γ p hΓ=>h Γ p (in_big rm hΓ)
theorem room_big {A:Around} {k:Nat} (rm:Room A k):Room (Abig k) k:=by
 refine ⟨rfl,?_,?_⟩
 ·have:=rm.dp;show recursionLimit-k-1+k<recursionLimit;exact H39 this
 ·have:=rm.un;show cLine-10*k-201+10*k+200<cLine;exact H40 this
section
variable {prog:Program} {w:World} {A:Around} {R:GenEnd} {Y:Protocol} {n:Nat} {s₀:Shared} {c:Code} {fs:List Frame} {s:Shared} {env:Env}
 {K:Flow->Sem PySem.Fin} {H:Value->Sem PySem.Fin} {gd:Bool->Bool} {lv:List Value->List Value}
theorem seg_st {st:Stmt} (h:wpAny (model prog w) (A.over c fs) (exec st env) (fun f s'=>Seg (model prog w) A R Y n s₀ c (K f) fs s') (fun Z Z=>False) s) :
  Seg (model prog w) A R Y n s₀ c ((exec st env).wrap K H gd lv) fs s:=seg_wrap (wpAny_mono h (fun Z Z q=>q) fun Z Z q=>q.elim)
theorem seg_If {t:Expr} {x y:List Stmt} {pos:Pos}
  (h:wpAny (model prog w) (A.over c fs) (isTrue t env (eval t env)) (fun b s'=>Seg (model prog w) A R Y n s₀ c ((if b then execs x env else execs y env).wrap K H gd lv) fs s') (fun Z Z=>False) s) :
  Seg (model prog w) A R Y n s₀ c ((exec (.If t x y pos) env).wrap K H gd lv) fs s:=by
 refine rwl (exec_If _ _ _ _ _) ?_
 refine seg_bind_wrap (wpAny_standAt (seg_bind_wrap (wpAny_mono h (fun b s' hb=> ?_) fun Z Z q=>q.elim)))
 rcases b with _|_<;>exact hb
theorem seg_For {target iter:Expr} {body:List Stmt} {pos:Pos} (hs : ∀ x,foldedSetIterable iter env x=pure x)
  (h:wpAny (model prog w) (A.over c fs) (eval iter env) (fun x s₁=>wpAny (model prog w) (A.over c fs) (pyIter x) (fun it s₂=> ∀ p,
   Seg (model prog w) A R Y n s₀ (.forLoop target it body [] env) ((model prog w).den (.forLoop target it body [] env))
    (.ret (fun r=>((match r with | .ok f=>(.pure f:Sem Flow) | .error e=> .raise e).onRaise fun (x:Value)=>do
     if (<- field x 1)==Value.none then unsupported "frame.own-activation:exception-without-traceback"
     setFlight x env.frame).wrap K H gd lv) none (gd false) (lv []) c p []::fs) s₂) (fun Z Z=>False) s₁) (fun Z Z=>False) s) :
  Seg (model prog w) A R Y n s₀ c ((exec (.For target iter body [] pos) env).wrap K H gd lv) fs s:=by
 refine rwl (exec_For _ _ _ _ _) ?_
 refine seg_bind_wrap (wpAny_standAt (seg_bind_wrap (wpAny_mono h (fun x s₁ h₁=> ?_) fun Z Z q=>q.elim)))
 refine seg_bind_wrap (wpAny_of_eq (hs x) (seg_bind_wrap (wpAny_standAt (seg_bind_wrap (wpAny_holding (wpAny_mono h₁ (fun it s₂ h₂=> ?_) fun Z Z q=>q.elim))))))
 exact seg_call h₂
theorem seg_forLoop {target:Expr} {it:Value} {body:List Stmt}
  (h:wpAny (model prog w) (A.over (.forLoop target it body [] env) fs) (pyNext it) (fun r s₁=>match r with
   | none=>Seg (model prog w) A R Y n s₀ (.block [] env) ((model prog w).den (.block [] env)) fs s₁
   | some v=>wpAny (model prog w) (A.over (.forLoop target it body [] env) fs) (letOwnedTupleGo target it v) (fun Z s₂=>wpAny (model prog w) (A.over (.forLoop target it body [] env) fs) (assign target env v) (fun Z s₃=>
     Seg (model prog w) A R Y n s₀ (.forLoop target it body [] env) ((execs body env).wrap (fun f=>match f with
      | .next | .cont=> .pure (.again (.forLoop target it body [] env))
      | .brk=> .pure (.done .next)
      | .ret v=> .pure (.done (.ret v))) (fun e=>(do noteFrame e env;theTreesLotGoes e:Sem Unit).wrap (fun Z=> .raise e) .raise id id) id id) fs s₃) (fun Z Z=>False) s₂) (fun Z Z=>False) s₁) (fun Z Z=>False) s) :
  Seg (model prog w) A R Y n s₀ (.forLoop target it body [] env) ((model prog w).den (.forLoop target it body [] env)) fs s:=by
 show Seg _ A R Y n s₀ _ ((forTurn target it body [] env).onRaise (fun x=>do noteFrame x env;theTreesLotGoes x)) fs s
 refine rwl (Sem.onRaise_eq_wrap _ _) ?_
 refine seg_bind_wrap (wpAny_standAt (seg_bind_wrap (wpAny_onRaise (wpAny_mono h (fun r s₁ h₁=> ?_) fun Z Z q=>q.elim))))
 rcases r with _|v
 ·exact seg_again rfl h₁
 ·refine seg_bind_wrap (wpAny_mono h₁ (fun Z s₂ h₂=> ?_) fun Z Z q=>q.elim)
  refine seg_bind_wrap (wpAny_mono h₂ (fun Z s₃ h₃=> ?_) fun Z Z q=>q.elim)
  show Seg _ A R Y n s₀ _ (Sem.wrap _ _ _ _ (execs body env >>= _)) fs s₃
  refine rwl (Sem.bind_eq_wrap' _ _) ?_;rw [Sem.wrap_wrap]
  refine rwl (Sem.wrap_congr (execs body env) _ _ (K':=fun f=>match f with
      | .next | .cont=> .pure (.again (.forLoop target it body [] env))
      | .brk=> .pure (.done .next)
      | .ret v=> .pure (.done (.ret v))) (H':=(fun e=>(do noteFrame e env;theTreesLotGoes e:Sem Unit).wrap (fun Z=> .raise e) .raise id id))
    (fun f=>by rcases f with _|_|_|_<;>rfl)
    (fun e=>by first|exact Sem.bind_eq_wrap _ _|(show (do noteFrame e env;theTreesLotGoes e:Sem Unit).bind (fun Z=> .raise e)=_;rw [Sem.bind_eq_wrap]))) ?_
  exact h₃
theorem seg_block_nil {k:Result->Sem PySem.Fin} {g:Bool} {l:List Value} {c₁:Code} {p₁:Pos} {kp:List Value} {hd:Option Value} (h:Seg (model prog w) A R Y n s₀ c₁ (k (.ok .next)) fs s) :
  Seg (model prog w) A R Y n s₀ (.block [] env) ((model prog w).den (.block [] env)) (.ret k hd g l c₁ p₁ kp::fs) s:=seg_leaf (.ok .next) h
end
section
variable {prog:Program} {w:World} {A:Around} {E:Value->Shared->Prop} {s:Shared}
theorem next_gen {a:Addr} {g n:Nat} {gs:GenState} {P:Nat->Shared->Shared->Prop} {Y:Protocol} {Q:Option Value->Shared->Prop} (hh:A.handled=none)
  (hl:s.heap.NoLimit) (hroom:A.depth<recursionLimit)
  (hg:s.heap.IsGen a g) (hgs:s.gens[g]? = some gs)
  (hgo:gs.Goes (model prog w) A.in1 (fun n s₀ r s₁=>r = .ok (.ret .none)/\P n s₀ s₁) Y n (.send .none) (s.setGen g .running))
  (hY : ∀ v s₁ gs',gs'.bare=true->Y (n-1) (s.setGen g .running) v s₁ (fun r' s''=>match n with
    | 0=>False
    | m+1=>gs'.Goes (model prog w) A.in1 (fun n s₀ r s₁=>r = .ok (.ret .none)/\P n s₀ s₁) Y m r' s'')->Q (some v) (s₁.setGen g gs'))
  (hP : ∀ s₁,P n (s.setGen g .running) s₁ -> ∀ h',(∀ b o,s₁.heap.get? b=some o->h'.get? b=some o)->Q none { s₁.setGen g .finished with heap:=h' }) :
  wpAny (model prog w) A (pyNext (.ref a)) Q E s:=by
 refine wpAny_bind (wpAny_attempt (wpAny_callSpecial?_slot (name:=Str.ofString "__next__") hg.typeIs slot_gen_next
  (wpAny_call_entry slot_gen_next hg.typeIs entry_gen_next ?_ (args_gen_next _))))
 show wpAny _ A.in1 (Builtin.Generator.genWake (.ref a) (.send .none)) _ _ s
 refine wpAny_bind (wpAny_holding (wpAny_genNumber hg (wpAny_bind (wpAny_genState hgs ?_))))
 rcases gs with _|_|_|_
 case running=>exact hgo.elim
 case finished=>exact hgo.elim
 all_goals
  refine wpAny_bind (wpAny_roomToWake hl hroom ?_)
  show wpAny _ A.in1 (.resume g (.send .none) [] _) _ _ s
  refine wpAny_resumeQ hgs hgo (fun x s₁ hx=> ?_) (fun v s₁ gs' hb hv=> ?_)
  ·refine ea02 hx fun Z0 hp=> ?_;subst Z0
   show wpAny _ A.in1 (newExc (.type "StopIteration") [] >>= _) _ _ _
   refine wpAny_bind ?_
   refine wpAny_bind (wpAny_newObj_type ?_ (by size_fits))
   refine wpAny_bind (m:=firstArgMember _ _) (wpAny_of_eq (a:=Value.none) (by first|rfl|(simp only [firstArgMember];rfl)) ?_)
   refine wpAny_newObj_type ?_ (by size_fits)
   refine wpAny_bind (wpAny_bind (wpAny_handled ?_))
   first|refine rwl (show A.in1.handled=none from hh) ?_|rw [hh]
   refine wpAny_throw ?_
   refine wpAny_bind (wpAny_isInstance (T:= "StopIteration") (b:=true) ⟨_,Heap.get?_push_size _ rfl,rfl⟩ isSubtype_stop ?_)
   exact wpAny_pure (hP s₁ hp _ fun b o hb=>Heap.get?_push_of_some _ (Heap.get?_push_of_some _ hb))
  ·exact wpAny_pure ⟨v,rfl,wpAny_pure (hY v s₁ gs' hb hv)⟩
end
noncomputable def bsl:Str:=Str.ofString "\\"
noncomputable def one (c:Nat):Str:=⟨#[c]⟩
noncomputable def escGo (e:Bool) (i:Nat):List Nat->List D
 | []=>if e then [.tuple [.int ((i-1:Nat):Int),.str bsl]] else []
 | c::r=>if e then .tuple [.int (i:Int),.str (bsl++one c)]::escGo false (i+1) r
   else if PyData.eqv (.str (one c)) (.str bsl) then escGo true (i+1) r else .tuple [.int (i:Int),.str (one c)]::escGo false (i+1) r
noncomputable def escItems (x:Str):List D:=escGo false 0 x.cps.toList
noncomputable def flat:D->Bool
 | .int _=>true
 | .bool _=>true
 | .str _=>true
 | .none=>true
 | _=>false
theorem Rep.flat {W W':List Addr} {h h':Heap} {v:Value} {d:D} (r:Rep W h v d) (hf:Mine.flat d=true):Rep W' h' v d:=by
 cases r with
 | int i t=>exact .int i t
 | bool b=>exact .bool b
 | str x t ha=>exact .str x t ha
 | none=>exact .none
 | list _ _ _=>simp [Mine.flat] at hf
 | tup _ _ _=>simp [Mine.flat] at hf
noncomputable def nPos:Str:=Str.ofString "pos"
noncomputable def nEsc:Str:=Str.ofString "escape"
noncomputable def nCh:Str:=Str.ofString "ch"
noncomputable def nAddr:Str:=Str.ofString "addr"
noncomputable def isCst (e:Expr):Bool:=onConstant e fun Z Z Z=>true
theorem constI_el {i:Int} {c:Const} {P:Const->Prop} (h:constIs (.int i) c=true) (k:P (.int i)):P c:=by rcases c with _|_|_|_|_|_|_|_<;>first|exact eqB h▸k|exact ff h
theorem constB_el {i:Bool} {c:Const} {P:Const->Prop} (h:constIs (.bool i) c=true) (k:P (.bool i)):P c:=by rcases c with _|_|_|_|_|_|_|_<;>first|exact eqB h▸k|exact ff h
inductive GenOk (sc:Sc):List Stmt->Prop
 | mk {z1 v1 z2 z3 v2 z4 tg z5 y z6 c1 y1 z7 z8 z9 v3 z10 c2 z11 v4 z12 y2 z13 z14 z15 z16 z17 c3 y3 z18 z19 z20} (h1_:isCst v1=true) (h2_:isCst v2=true) (h3_:mt (.c (.int 0)) sc v1=true) (h4_:mt (.c (.bool false)) sc v2=true) (h5_:mt (.c (.bool false)) sc v3=true) (h6_:mt (.c (.bool true)) sc v4=true) (h7_:tgOk (.t [nPos,nCh]) tg=true) (h8_:(sc.lookup ("enumerate" : Str)==some .globalImplicit)=true) (h9_:mt (.var nAddr) sc y=true) (h10_:notStar y=true) (h11_:mt (.var nEsc) sc c1=true) (h12_:mt (.var nEsc) sc c3=true) (h13_:mt (.cmp .Eq (.var nCh) (.c (.str bsl))) sc c2=true) (h14_:mt (.tup (.cons (.var nPos) (.cons (.bin .Add (.c (.str bsl)) (.var nCh)) .nil))) sc y1=true) (h15_:mt (.tup (.cons (.var nPos) (.cons (.var nCh) .nil))) sc y2=true) (h16_:mt (.tup (.cons (.var nPos) (.cons (.c (.str bsl)) .nil))) sc y3=true) (h17_:okS sc nPos=true) (h18_:okS sc nEsc=true) (h19_:okS sc nCh=true) (h20_:okS sc nAddr=true):GenOk sc [.Assign [.Name nPos z1] v1 z2,.Assign [.Name nEsc z3] v2 z4,.For tg (.Call (.Name ("enumerate" : Str) z5) [y] [] z6) [.If c1 [.Expr (.Yield (some y1) z7) z8,.Assign [.Name nEsc z9] v3 z10] [.If c2 [.Assign [.Name nEsc z11] v4 z12] [.Expr (.Yield (some y2) z13) z14] z15] z16] [] z17,.If c3 [.Expr (.Yield (some y3) z18) z19] [] z20]
section
variable {prog:Program} {w:World} {T:Heap->Prop} {V:Value->Prop} {F:Str->Option Addr} {Φ B:Fns} {k:Nat} {env:Env} {sc:Sc}
structure GS (T:Heap->Prop) (V:Value->Prop) (env:Env) (sc:Sc) (ρ:Loc) (s:Shared):Prop where
 st:St T V [] env sc ρ s
 fl : ∀ y d,lk ρ y = .d d->flat d=true
 no : ∀ y ds,lk ρ y ≠ .o ds
 nv : ∀ y u,lk ρ y ≠ .v u
theorem flat_holds {h h':Heap} {y:Str} {v:Value} (z:Holds env h y v) (hk : ∀ b o,Slots env b->h.get? b=some o->h'.get? b=some o):Holds env h' y v:=by
 rcases z with ⟨a,m,hn,hm⟩|⟨a,cc,hc,o,ho,hd⟩
 ·exact .inl ⟨a,m,hn.at' fun o e=>hk _ o (.inl rfl) e,hm⟩
 ·exact .inr ⟨a,cc,hc,o,hk _ o (.inr ⟨y,hc⟩) ho,hd⟩
theorem GS.move {ρ:Loc} {s s':Shared} (g:GS T V env sc ρ s) (hT:T s'.heap) (hk : ∀ b o,Slots env b->s.heap.get? b=some o->s'.heap.get? b=some o):GS T V env sc ρ s':=
 ⟨⟨g.st.es,fun a ha=>(nomatch ha),hT,⟨fun y d hy e=>ea12 (g.st.br.d y d hy e) fun v h1 h2=>⟨v,flat_holds h1 hk,h2.flat (g.fl y d e)⟩,fun y ds hy e=>absurd e (g.no y ds),fun y u hy e=>absurd e (g.nv y u)⟩,g.st.fr.keeps hk,g.st.tv⟩,g.fl,g.no,g.nv⟩
theorem GS.ext {ρ:Loc} {s s':Shared} (C:TopS T F) (g:GS T V env sc ρ s) (x:Ext s s'):GS T V env sc ρ s':=⟨g.st.ext C x,g.fl,g.no,g.nv⟩
structure Own (T:Heap->Prop) (env:Env) (O:List Addr):Prop where
 top : ∀ h h',T h->(∀ b o,b∉O->h.get? b=some o->h'.get? b=some o)->T h'
 slot : ∀ a,Slots env a->a∈O
theorem g_store {A:Around} {O:List Addr} (hO:Own T env O) {ρ:Loc} {s:Shared} {x:Str} {v:Value} {d:D} {E:Value->Shared->Prop} {Q:Unit->Shared->Prop} (g:GS T V env sc ρ s) (hx:okS sc x=true) (hd:flat d=true) (r:Rep [] s.heap v d)
  (h : ∀ s',GS T V env sc (upd ρ x (.d d)) s'->Chg (Slots env) (fun Z=>False) s s'->s'.heap.objs.size=s.heap.objs.size->Q () s'):wpAny (model prog w) A (storeName env x v) Q E s:=by
 refine store_ok g.st.es g.st.fr (okS_hx hx) fun h' tk fr' hh hh' c hsl hsz=> ?_
 have c':Chg (Slots env) (fun Z=>False) s { s with heap:=h',toks:=tk }:=c.mono (fun a ha=>by cases ha;exact hsl) fun Z h=>h
 have bl:Blind [] s.heap (Slots env):=g.st.fr.blind
 refine h _ ⟨⟨g.st.es,fun a ha=>(nomatch ha),hO.top _ _ g.st.tp fun b o hb e=>c'.keep b o (fun q=>hb (hO.slot b q)) e,g.st.br.store hh (r.chg c' bl) hh' (fun Z Z q=>q.chg c' bl) (fun Z Z q=>q.chg c' bl) fun a vs n ha e=>(nomatch ha),fr',fun y u e=>g.st.tv y u (upd_v (fun Z q=>by exact nomatch q) e)⟩,fun y d' e=> ?_,fun y ds e=> ?_,fun y u e=> ?_⟩ c' hsz
 ·rw [lk_upd] at e
  split at e
  ·cases e;exact hd
  ·exact g.fl y d' e
 ·rw [lk_upd] at e
  split at e
  ·exact nomatch e
  ·exact g.no y ds e
 ·rw [lk_upd] at e
  split at e
  ·exact nomatch e
  ·exact g.nv y u e
theorem g_asg (C:Ctx prog w T V F Φ B k) {A:Around} {O:List Addr} (hO:Own T env O) {ρ:Loc} {s:Shared} {x:Str} {p pos:Pos} {v:Expr} {d:D} {E:Value->Shared->Prop} {Q:Flow->Shared->Prop} (rm:Room A k) (g:GS T V env sc ρ s) (hx:okS sc x=true) (hd:flat d=true) (hm:mt (.c d) sc v=true)
  (h : ∀ s',GS T V env sc (upd ρ x (.d d)) s'->Chg (Slots env) (fun Z=>False) s s'->Q .next s'):wpAny (model prog w) A (exec (.Assign [.Name x p] v pos) env) Q E s:=by
 exact wpAny_Assign_Name ((all_se C (.c d)).1 sc v A env [] ρ s d _ E hm rm g.st rfl fun v s₁ x₁ r₁=>g_store hO (g.ext C.top x₁) hx hd r₁ fun s' g' c Z=>h s' g' (x₁.chg.trans c)) (swaps (mt_pl hm rfl) _ _ _ _)
theorem g_asg0 {A:Around} {O:List Addr} (hO:Own T env O) {ρ:Loc} {s:Shared} {x:Str} {p pos:Pos} {v:Expr} {d:D} {E:Value->Shared->Prop} {Q:Flow->Shared->Prop} (g:GS T V env sc ρ s) (hx:okS sc x=true) (hd:(∃ i,d = .int i) \/ ∃ b,d = .bool b) (hv:isCst v=true) (hm:mt (.c d) sc v=true)
  (h : ∀ s',GS T V env sc (upd ρ x (.d d)) s'->Chg (Slots env) (fun Z=>False) s s'->s'.heap.objs.size=s.heap.objs.size->Q .next s'):wpAny (model prog w) A (exec (.Assign [.Name x p] v pos) env) Q E s:=by
 revert hm
 apply onConstant_el hv;clear hv;intro c kk cp Z hm
 have hm:constIs d c=true:=(Bool.or_false _).symm.trans hm
 refine wpAny_Assign_Name ?_ (by rfl)
 rcases hd with ⟨i,rfl⟩|⟨b,rfl⟩
 ·apply constI_el hm;exact wpAny_Constant_int (g_store hO ⟨⟨g.st.es,g.st.sh,g.st.tp,g.st.br,g.st.fr,g.st.tv⟩,g.fl,g.no,g.nv⟩ hx rfl (.int _ _) fun s' g' c sz=>h s' g' ((Ext.toks s _).chg.trans c) sz)
 ·apply constB_el hm;exact wpAny_Constant_bool (g_store hO g hx rfl (.bool _) fun s' g' c sz=>h s' g' c sz)
noncomputable def YP (T:Heap->Prop) (items:List D) (O:List Addr):Protocol:=fun m s₀ v s kap=>
 m<items.length/\(∀ d,items[items.length-1-m]? = some d -> ∀ W,Shut W s.heap->Rep W s.heap v d)/\Chg (·∈ O) (fun Z=>False) s₀ s/\T s.heap/\(∀ b∈O,∃ o,s.heap.get? b=some o /\ ¬ isSeq o) /\
  ∀ s'':Shared,T s''.heap->(∀ b∈O,∀ o,s.heap.get? b=some o->s''.heap.get? b=some o)->kap (.send .none) s''
noncomputable def RP (O:List Addr):GenEnd:=fun n s₀ r s₁=>r = .ok (.ret .none)/\(n=0/\Chg (·∈ O) (fun Z=>False) s₀ s₁)
theorem flatL {W:List Addr} {h:Heap} {ds:List D} : ∀ {vs:List Value},RepL [] h vs ds->ds.all flat=true->RepL W h vs ds:=by
 induction ds with
 | nil=>intro vs r Z;apply r.nil_el;exact .nil
 | cons d ds ih=>intro vs r hf;apply r.cons_el;intro u us a b;exact .cons (a.flat (andB hf).1) (ih b (andB hf).2)
theorem tup_rep {W:List Addr} {h:Heap} {v:Value} {ds:List D} (r:Rep [] h v (.tuple ds)) (hf:ds.all flat=true) (hW:Shut W h):Rep W h v (.tuple ds):=by
 apply r.tup_el;intro a vs n ha e rl
 refine .tup (fun hm=> ?_) e (flatL rl hf)
 refine ea21 (hW a hm) fun us m e'=> ?_
 exact absurd (congrArg (Option.map Obj.cls) (e.symm.trans e')) (by simp)
theorem g_yield (C:Ctx prog w T V F Φ B k) {A:Around} {O:List Addr} {items pre rest:List D} {ds:List D} {s₀ s:Shared} {c:Code} {fs:List Frame} {ρ:Loc} {K:Flow->Sem PySem.Fin} {H:Value->Sem PySem.Fin} {gd:Bool->Bool} {lv:List Value->List Value} {y:Expr} {yp pos:Pos} {es:MEs}
  (hfs:splitAtGen fs=none) (hgd:gd false=false) (hfg:fs.any Frame.guarded=false) (hco:env.scope.isCoroutine=false)
  (rm:Room (A.over c fs) k) (g:GS T V env sc ρ s) (hm:mt (.tup es) sc y=true) (hev:evL Φ B es ρ=some ds) (hfl:ds.all flat=true) (hit:items=pre ++ .tuple ds::rest)
  (hc:Chg (·∈ O) (fun Z=>False) s₀ s) (hsl : ∀ a,Slots env a->a∈O) (hl : ∀ b∈O,∃ o,s.heap.get? b=some o /\ ¬ isSeq o)
  (h : ∀ s',Ext s s' -> ∀ s'',T s''.heap->(∀ b∈O,∀ o,s'.heap.get? b=some o->s''.heap.get? b=some o)->GS T V env sc ρ s''->Seg (model prog w) A (RP O) (YP T items O) rest.length s'' c (K .next) fs s'') :
  Seg (model prog w) A (RP O) (YP T items O) (rest.length+1) s₀ c ((exec (.Expr (.Yield (some y) yp) pos) env).wrap K H gd lv) fs s:=by
 refine seg_Expr_Yield hfs hgd hfg (wpAny_mono (E:=fun Z Z=>False) ((all_se C (.tup es)).1 sc y (A.over c fs) env [] ρ s (.tuple ds) (fun v s'=> ∀ kap:Resume->Shared->Prop,
    (∀ x s'',(match x with | .ref _=>False|_=>Seg (model prog w) A (RP O) (YP T items O) rest.length s'' c (K .next) fs s'')->kap (.send x) s'')->YP T items O rest.length s₀ v s' kap) _ hm rm g.st (congrArg (Option.map PyData.tuple) hev) fun v s' x r kap hk=> ?_) (fun Z Z q=>q) fun Z Z q=>q.elim) hco (not_inter g.st.es)
 have g':=g.ext C.top x
 refine ⟨by refine rwl hit ?_;simp;exact Nat.le_add_left _ _,fun d hd W hW=> ?_,hc.trans x.chg,g'.st.tp,fun b hb=> ?_,fun s'' hT hal=>hk .none s'' (h s' x s'' hT hal (g'.move hT fun b o hb e=>hal b (hsl b hb) o e))⟩
 ·have:items.length-1-rest.length=pre.length:=by refine rwl hit ?_;simp
  rw [this,hit] at hd
  simp at hd
  subst hd
  exact tup_rep r hfl hW
 ·refine ea12 (hl b hb) fun o e q=> ?_
  exact ⟨o,x.keep b o e,q⟩
structure GI (T:Heap->Prop) (V:Value->Prop) (env:Env) (sc:Sc) (x:Str) (esc:Bool) (i:Nat) (ρ:Loc) (s:Shared):Prop where
 g:GS T V env sc ρ s
 e:lk ρ nEsc = .d (.bool esc)
 p:lk ρ nPos = .d (.int ((i-1:Nat):Int))
theorem upd_ne {ρ:Loc} {x y:Str} {b:Bd} (h:(x==y)=false):lk (upd ρ x b) y=lk ρ y:=by rw [lk_upd,if_neg (by refine rwl h ?_;simp)]
theorem upd_eq {ρ:Loc} {x:Str} {b:Bd}:lk (upd ρ x b) x=b:=by exact rwl (lk_upd _ _ _ _) (rwl (if_pos (beq_self_eq_true _)) rfl)
theorem ascii_end_live {A:Around} {s:Shared} {E:Value->Shared->Prop} {it:Addr} {x:Str} {t:Tok} {i:Nat} {Q:Value->Shared->Prop} (hh:A.handled=none)
  (hit:s.heap.IsStrIter it "str_ascii_iterator" x t i) (hx:x.cps[i]? = none)
  (hE : ∀ h' e,Heap.ExtBut it s.heap h'->(∃ o,h'.get? it=some o /\ ¬ isSeq o)->(∃ o,h'.get? e=some o/\o.cls = .type "StopIteration")->E (.ref e) { s with heap:=h' }) :
  wpAny (model prog w) A (Builtin.SmallTypes.nextOf (.ref it)) Q E s:=by
 obtain ⟨o,ho,hc,hd⟩:=id hit
 refine wpAny_bind (wpAny_callSpecial?_slot (name:=Str.ofString "__next__") hit.typeIs PySem.F.slot_str_ascii_iterator_next
  (wpAny_call_entry PySem.F.slot_str_ascii_iterator_next hit.typeIs PySem.F.entry_str_ascii_iterator_next ?_ (PySem.F.args_str_ascii_iterator_next_1 _)))
 show wpAny _ _ (field (.ref it) 0 >>= _) _ _ s
 refine wpAny_bind (wpAny_field ho hd (x:= .str x t) rfl ?_)
 show wpAny _ _ (field (.ref it) 1 >>= _) _ _ s
 refine wpAny_bind (wpAny_field ho hd (x:= .int i 0) rfl ?_)
 simp only [Int.toNat_natCast,hx]
 refine wpAny_bind (wpAny_rule (wpAny_bind (wpAny_setField ho hd (by simp) (wpAny_bind (wpAny_letGo ?_)))))
 show wpAny _ _ (newExc (.type "StopIteration") [] >>= _) _ _ _
 refine wpAny_bind ?_
 refine wpAny_bind (wpAny_newObj_type ?_ (by size_fits))
 refine wpAny_bind (m:=firstArgMember _ _) (wpAny_of_eq (a:=Value.none) (by first|rfl|(simp only [firstArgMember];rfl)) ?_)
 refine wpAny_newObj_type ?_ (by size_fits)
 refine wpAny_bind (wpAny_handled ?_)
 first|refine rwl (show A.in1.handled=none from hh) ?_|rw [hh]
 refine wpAny_bind (wpAny_pure (wpAny_throw ?_))
 refine hE _ _ (((Heap.SameBut.update ..).extBut.push _).push _) ⟨_,Heap.get?_push_of_some _ (Heap.get?_push_of_some _ (Heap.get?_update_self _ ho (Obj.isFreed_of_fields (Obj.data_mapFields hd _)))),?_⟩ ⟨_,Heap.get?_push_size _ rfl,rfl⟩
 rintro ⟨vs,n,q|q⟩<;>(have q2:=congrArg Obj.data q;rw [Obj.data_mapFields hd] at q2;exact nomatch q2)
theorem enum_end_live {A:Around} {s:Shared} {E:Value->Shared->Prop} {e it:Addr} {x:Str} {t:Tok} {n:Nat} {i:Int} {old:Value} {Q:Option Value->Shared->Prop} (hh:A.handled=none) (hne:e≠it) (he:IsEnum s.heap e it i old) (hit:s.heap.IsStrIter it "str_ascii_iterator" x t n) (hx:x.cps[n]? = none)
  (hQ : ∀ h',Heap.ExtBut it s.heap h'->(∃ o,h'.get? it=some o /\ ¬ isSeq o)->Q none { s with heap:=h' }):wpAny (model prog w) A (pyNext (.ref e)) Q E s:=by
 have hT:s.TypeIs (.ref e) "enumerate" := ⟨_,he,rfl⟩
 refine wpAny_bind (wpAny_attempt (wpAny_callSpecial?_slot (name:=Str.ofString "__next__") hT PySem.F.slot_enumerate_next
  (wpAny_call_entry PySem.F.slot_enumerate_next hT PySem.F.entry_enumerate_next ?_ (PySem.F.args_enumerate_next_1 _))))
 show wpAny _ _ (field (.ref e) 2 >>= _) _ _ _
 refine wpAny_bind (wpAny_field he rfl (x:= .ref it) rfl ?_)
 refine wpAny_bind (ascii_end_live hh hit hx fun h' x he' hl hx'=> ?_)
 obtain ⟨o,ho,hc⟩:=hx'
 refine wpAny_bind (wpAny_isInstance (T:= "StopIteration") (b:=true) ⟨o,ho,hc⟩ isSubtype_stop ?_)
 exact wpAny_pure (hQ _ he' hl)
theorem one_ascii {x:Str} (hx:strA x=true) {i:Nat} {c:Nat} (h:x.cps[i]? = some c):strA (one c)=true:=by
 unfold strA at hx ⊢
 unfold one
 rw [Array.all_eq_true] at hx
 refine ea11 (Array.getElem?_eq_some_iff.mp h) fun hi e=> ?_
 have:=hx i hi
 rw [e] at this
 simpa using this
noncomputable def ES (e it:Addr) (x:Str) (t:Tok) (h:Heap) (i:Nat):Prop:=(∃ old,IsEnum h e it i old)/\h.IsStrIter it "str_ascii_iterator" x t i
theorem slot_live {ρ:Loc} {s:Shared} (g:GS T V env sc ρ s) {b:Addr} (q:Slots env b) : ∃ o,s.heap.get? b=some o /\ ¬ isSeq o:=by
 rcases e':s.heap.get? b with _|o
 ·exact absurd e' (slots_live g.st.fr q)
 ·exact ⟨o,rfl,fun z=>(g.st.fr.blind (W:=[]) b q).elim (fun z=>nomatch z) fun y=>y o e' z⟩
theorem no_enum {cls:Value} {vs:Array Value} : ¬ isSeq { cls:=cls,data:= .fields vs }:=fun Z9=>ea21 Z9 fun Z Z q=>q.elim (fun q=>nomatch congrArg Obj.data q) fun q=>nomatch congrArg Obj.data q
theorem gen_live {O:List Addr} {e it:Addr} {x:Str} {t:Tok} (hOe : ∀ b∈O,Slots env b\/b=e\/b=it) {s:Shared} {ρ:Loc} {i:Nat} (g:GS T V env sc ρ s) (st:ES e it x t s.heap i) (b:Addr) (hb:b∈O) : ∃ o,s.heap.get? b=some o /\ ¬ isSeq o:=by
 rcases hOe b hb with q|rfl|rfl
 ·exact slot_live g q
 ·obtain ⟨⟨old,h1⟩,_⟩:=st
  exact ⟨_,h1,no_enum⟩
 ·obtain ⟨_,o,h1,_,h3⟩:=st
  exact ⟨o,h1,fun Z9=>ea21 Z9 fun Z Z q=>q.elim (fun q=>by exact nomatch q▸h3) fun q=>by exact nomatch q▸h3⟩
theorem es_keep {e it:Addr} {x:Str} {t:Tok} {h h':Heap} {i:Nat} (st:ES e it x t h i) (hk : ∀ y,y=e\/y=it -> ∀ o,h.get? y=some o->h'.get? y=some o):ES e it x t h' i:=by
 obtain ⟨⟨old,h1⟩,o,h2,h3⟩:=st
 exact ⟨⟨old,hk e (.inl rfl) _ h1⟩,o,hk it (.inr rfl) o h2,h3⟩
noncomputable def GBody (prog:Program) (w:World) (T:Heap->Prop) (V:Value->Prop) (k:Nat) (env:Env) (sc:Sc) (O:List Addr) (items:List D) (e it:Addr) (x:Str) (t:Tok) (body:List Stmt):Prop:=
 ∀ (A:Around) (c:Code) (fs:List Frame) (K:Flow->Sem PySem.Fin) (H:Value->Sem PySem.Fin) (gd:Bool->Bool) (lv:List Value->List Value) (esc:Bool) (i cc:Nat) (rest:List Nat) (ρ₅:Loc) (s₀ s₅:Shared) (pre:List D),splitAtGen fs=none->gd false=false->fs.any Frame.guarded=false->Room (A.over c fs) k ->
  GS T V env sc ρ₅ s₅->lk ρ₅ nEsc = .d (.bool esc)->lk ρ₅ nPos = .d (.int (i:Int))->lk ρ₅ nCh = .d (.str (one cc))->ES e it x t s₅.heap (i+1)->Chg (·∈ O) (fun Z=>False) s₀ s₅->items=pre++escGo esc i (cc::rest) ->
  (∀ (esc':Bool) (s₆ s₇:Shared) (ρ₇:Loc) (pre':List D),GS T V env sc ρ₇ s₇->lk ρ₇ nEsc = .d (.bool esc')->lk ρ₇ nPos = .d (.int (i:Int))->ES e it x t s₇.heap (i+1)->Chg (·∈ O) (fun Z=>False) s₆ s₇->items=pre'++escGo esc' (i+1) rest->Seg (model prog w) A (RP O) (YP T items O) (escGo esc' (i+1) rest).length s₆ c (K .next) fs s₇) ->
  Seg (model prog w) A (RP O) (YP T items O) (escGo esc i (cc::rest)).length s₀ c ((execs body env).wrap K H gd lv) fs s₅
theorem gen_body (C:Ctx prog w T V F Φ B k) {O:List Addr} {e it:Addr} {x:Str} {t:Tok} {items:List D} {y1 y2 c1 c2 v3 v4:Expr} {q1 q2 q3 q4 q5 q6 q7 q8 q9 q10:Pos} (hco:env.scope.isCoroutine=false)
  (h3:mt (.c (.bool false)) sc v3=true) (h4:mt (.c (.bool true)) sc v4=true) (hc1:mt (.var nEsc) sc c1=true) (hc2:mt (.cmp .Eq (.var nCh) (.c (.str bsl))) sc c2=true)
  (hy1:mt (.tup (.cons (.var nPos) (.cons (.bin .Add (.c (.str bsl)) (.var nCh)) .nil))) sc y1=true) (hy2:mt (.tup (.cons (.var nPos) (.cons (.var nCh) .nil))) sc y2=true) (hne':okS sc nEsc=true)
  (hO:Own T env O) (hOe : ∀ b∈O,Slots env b\/b=e\/b=it) (he:e∈O) (hi:it∈O) (noS : ∀ y,y=e\/y=it -> ¬ Slots env y) :
  GBody prog w T V k env sc O items e it x t [.If c1 [.Expr (.Yield (some y1) q1) q2,.Assign [.Name nEsc q3] v3 q4] [.If c2 [.Assign [.Name nEsc q5] v4 q6] [.Expr (.Yield (some y2) q7) q8] q9] q10]:=by
 intro A c fs K H gd lv esc i cc rest ρ₅ s₀ s₅ pre hfs1 hgd hfs2 rm g₅ l1 l2 l3 st₅ cAll hit next
 have hcS : ∀ {a b:Shared},Chg (Slots env) (fun Z=>False) a b->Chg (·∈ O) (fun Z=>False) a b:=fun c=>c.mono hO.slot fun Z q=>q
 refine seg_execs_cons (seg_If ((all_se C (.var nEsc)).2 sc c1 _ env [] ρ₅ s₅ (.bool esc) esc _ _ hc1 rm g₅.st (by show (match lk ρ₅ nEsc with | .d d=>some d|_=>none)=_;exact rwl l1 rfl) rfl fun s₆ x₆=> ?_))
 have g₆:=g₅.ext C.top x₆
 have st₆:=es_keep st₅ fun y Z o e'=>x₆.keep y o e'
 have c₆:=cAll.trans (x₆.chg (P:=(·∈ O)) (G:=fun Z=>False))
 have hlen:bsl.length+(one cc).length<=szL:=by
  have h1:bsl.length=1:=rfl
  have h2:(one cc).length=1:=rfl
  rw [h1];refine rwl h2 ?_;unfold szL;exact of_eq_true (eq_true_of_decide (Eq.refl true))
 rcases esc with _|_
 ·simp only [Bool.false_eq_true,if_false]
  simp only [escGo,Bool.false_eq_true,if_false] at hit ⊢
  refine seg_execs_cons (seg_If ((all_se C (.cmp .Eq (.var nCh) (.c (.str bsl)))).2 sc c2 _ env [] ρ₅ s₆ (.bool (PyData.eqv (.str (one cc)) (.str bsl))) _ _ _ hc2 rm g₆.st (bindI (evv l3) (bindI rfl (mapI ((cEq _ _).trans (if_pos (Nat.le_of_ble_eq_true rfl)))))) rfl fun s₇ x₇=> ?_))
  have g₇:=g₆.ext C.top x₇
  have st₇:=es_keep st₆ fun y Z o e'=>x₇.keep y o e'
  have c₇:=c₆.trans (x₇.chg (P:=(·∈ O)) (G:=fun Z=>False))
  rcases hb:PyData.eqv (.str (one cc)) (.str bsl) with _|_
  ·rw [hb] at hit
   simp only [Bool.false_eq_true,if_false] at hit ⊢
   refine seg_execs_cons (g_yield C (pre:=pre) (ds:=[.int (i:Int),.str (one cc)]) hfs1 hgd hfs2 hco rm g₇ hy2 ?_ rfl hit c₇ hO.slot (gen_live hOe g₇ st₇) fun s₈ x₈ s₉ hT hal g₉=> ?_)
   ·exact bindI (evv l2) (mapI (a:=[PyData.str (one cc)]) (bindI (evv l3) (mapI (a:=[]) rfl)))
   ·have st₉:=es_keep st₇ fun y hy o e'=>hal y (hy.elim (fun q=>q▸he) fun q=>q▸hi) o (x₈.keep y o e')
    exact next false s₉ s₉ _ (pre++[.tuple [.int (i:Int),.str (one cc)]]) g₉ l1 l2 st₉ (Chg.refl _) (by refine rwl hit ?_;simp)
  ·rw [hb] at hit
   simp only [if_true] at hit ⊢
   refine seg_execs_cons (seg_st (g_asg C hO rm g₇ hne' rfl h4 fun s₉ g₉ c₉=> ?_))
   have st₉:=es_keep st₇ fun y hy o e'=>c₉.keep y o (noS y hy) e'
   exact next true s₀ s₉ _ pre g₉ upd_eq (by refine rwl (upd_ne rfl) ?_;exact l2) st₉ (c₇.trans (hcS c₉)) hit
 ·simp only [escGo,if_true] at hit ⊢
  refine seg_execs_cons (g_yield C (pre:=pre) (ds:=[.int (i:Int),.str (bsl++one cc)]) hfs1 hgd hfs2 hco rm g₆ hy1 ?_ rfl hit c₆ hO.slot (gen_live hOe g₆ st₆) fun s₇ x₇ s₈ hT hal g₈=> ?_)
  ·exact bindI (evv l2) (mapI (a:=[PyData.str (bsl++one cc)]) (bindI (show ((ev Φ B (.var nCh) ρ₅).bind fun y=>binD .Add (.str bsl) y)=some (.str (bsl++one cc)) from bindI (evv l3) ((bAS _ _).trans (if_pos hlen))) (mapI (a:=[]) rfl)))
  ·have st₈:=es_keep st₆ fun y hy o e'=>hal y (hy.elim (fun q=>q▸he) fun q=>q▸hi) o (x₇.keep y o e')
   refine seg_execs_cons (seg_st (g_asg C hO rm g₈ hne' rfl h3 fun s₉ g₉ c₉=> ?_))
   have st₉:=es_keep st₈ fun y hy o e'=>c₉.keep y o (noS y hy) e'
   exact next false s₈ s₉ _ (pre++[.tuple [.int (i:Int),.str (bsl++one cc)]]) g₉ upd_eq (by refine rwl (upd_ne rfl) ?_;exact l2) st₉ (hcS c₉) (by refine rwl hit ?_;simp)
theorem gen_noS {e it:Addr} (hes : ¬ Slots env e) (his : ¬ Slots env it) : ∀ y,y=e\/y=it -> ¬ Slots env y:=fun y hy hs=>hy.elim (fun q=>hes (q▸hs)) fun q=>his (q▸hs)
theorem gen_loop (C:Ctx prog w T V F Φ B k) {A:Around} {O:List Addr} {e it:Addr} {x:Str} {t:Tok} {items:List D} {tg:Expr} {c:Code} {kk:Result->Sem PySem.Fin} {l:List Value} {p:Pos}
  (hO:Own T env O) (hOe : ∀ b∈O,Slots env b\/b=e\/b=it) (he:e∈O) (hi:it∈O) (hne:e≠it) (hes : ¬ Slots env e) (his : ¬ Slots env it) (hx:strA x=true) (hco:env.scope.isCoroutine=false)
  (rm : ∀ body,Room (A.over (.forLoop tg (.ref e) body [] env) [.ret kk none false l c p []]) k)
  (htg:tgOk (.t [nPos,nCh]) tg=true) {body:List Stmt} (hB:GBody prog w T V k env sc O items e it x t body)
  (hnp:okS sc nPos=true) (hnc:okS sc nCh=true)
  (fin : ∀ esc s₀ s ρ pre,GI T V env sc x esc x.cps.size ρ s->(∀ b∈O,∃ o,s.heap.get? b=some o /\ ¬ isSeq o)->Chg (·∈ O) (fun Z=>False) s₀ s->items=pre++escGo esc x.cps.size []->Seg (model prog w) A (RP O) (YP T items O) (escGo esc x.cps.size []).length s₀ c (kk (.ok .next)) [] s) :
  ∀ (j i:Nat) (esc:Bool) (s₀ s:Shared) (ρ:Loc) (pre:List D),x.cps.size-i=j->i<=x.cps.size->GI T V env sc x esc i ρ s->ES e it x t s.heap i->Chg (·∈ O) (fun Z=>False) s₀ s ->
   items=pre++escGo esc i (x.cps.toList.drop i) ->
   Seg (model prog w) A (RP O) (YP T items O) (escGo esc i (x.cps.toList.drop i)).length s₀ (.forLoop tg (.ref e) body [] env)
    ((model prog w).den (.forLoop tg (.ref e) body [] env)) [.ret kk none false l c p []] s:=by
 intro j
 have rm':=rm body
 generalize hfs:[Frame.ret kk none false l c p []]=fs at rm' ⊢
 have hfs1:splitAtGen fs=none:=by subst hfs;rfl
 have hfs2:fs.any Frame.guarded=false:=by subst hfs;rfl
 have hh':(A.over (.forLoop tg (.ref e) body [] env) fs).handled=none:=rm'.hh
 have WT:WalksT prog w (A.over (.forLoop tg (.ref e) body [] env) fs) e [e,it] [e,it] x.cps.size _ _ _:=WalksT.enumerateD (Draws.strAscii (A:=(A.over (.forLoop tg (.ref e) body [] env) fs).in1) hh' it x t) e hne (by simpa using hne) (by simp)
 have off : ∀ {b:Addr},b∉O->b∉[e,it]:=fun {b} hb q=>by
  rcases List.mem_cons.mp q with rfl|q
  ·exact hb he
  ·rcases List.mem_cons.mp q with rfl|q
   ·exact hb hi
   ·exact nomatch q
 have offS : ∀ {b:Addr},Slots env b->b∉[e,it]:=fun {b} hb q=>by
  rcases List.mem_cons.mp q with rfl|q
  ·exact hes hb
  ·rcases List.mem_cons.mp q with rfl|q
   ·exact his hb
   ·exact nomatch q
 induction j with
 | zero=>
  intro i esc s₀ s ρ pre hj hle g st hc hit
  have:i=x.cps.size:=by exact Nat.le_antisymm ((fun {i₁ i₂} ↦ String.Pos.Raw.mk_le_mk.mp) hle) (Nat.le_of_sub_eq_zero hj)
  subst this
  have hd:x.cps.toList.drop x.cps.size=[]:=List.drop_eq_nil_of_le (by simp)
  rw [hd] at hit ⊢
  obtain ⟨⟨old,hen⟩,hsi⟩:=st
  refine seg_forLoop (enum_end_live hh' hne hen hsi (by simp) fun h' hk hlive=> ?_)
  have hoff : ∀ {b:Addr},b∉O->b≠it:=fun {b} hb q=>by cases q;exact hb hi
  have hoffS : ∀ {b:Addr},Slots env b->b≠it:=fun {b} hb q=>by cases q;exact his hb
  have c':Chg (·∈ O) (fun Z=>False) s { s with heap:=h' }:=⟨fun b o hb e'=>hk b o (hoff hb) e',rfl,fun Z Z Z e=>e,fun h=>h⟩
  have g':GS T V env sc ρ { s with heap:=h' }:=g.g.move (hO.top _ _ g.g.st.tp fun b o hb e'=>hk b o (hoff hb) e') fun b o hb e'=>hk b o (hoffS hb) e'
  subst hfs
  refine seg_block_nil (fin esc s₀ _ ρ pre ⟨g',g.e,g.p⟩ (fun b hb=> ?_) (hc.trans c') hit)
  rcases hOe b hb with q|rfl|rfl
  ·exact slot_live g' q
  ·exact ⟨_,hk _ _ hne hen,no_enum⟩
  ·exact hlive
 | succ j ih=>
  intro i esc s₀ s ρ pre hj hle g st hc hit
  have hlt:i<x.cps.size:=by exact Nat.lt_of_sub_eq_succ hj
  have hd:x.cps.toList.drop i=x.cps[i]::x.cps.toList.drop (i+1):=by
   refine rwl (List.drop_eq_getElem_cons (by exact hlt)) ?_
   simp
  rw [hd] at hit ⊢
  refine seg_forLoop (WT.item i s _ _ hlt st fun T₁ vals h' tk hP hle' hTup hMid hk=> ?_)
  obtain ⟨tk2,ch,⟨cc,u,hcc,rfl⟩,rfl⟩:=hP
  have hcc':x.cps[i]=cc:=by
   refine ea11 (Array.getElem?_eq_some_iff.mp hcc) fun Z q=> ?_;exact q
  rw [hcc'] at hit ⊢
  have hasc:=one_ascii hx hcc
  have htg' : ∃ pa pb kk' tp,tg = .Tuple [.Name nPos pa,.Name nCh pb] kk' tp:=by
   apply onTuple_el (show (onTuple tg fun l Z Z=>on2 l fun p q=>onName p fun c Z=>onName q fun d Z=>nPos==c&&nCh==d)=true from htg);intro l n r h
   apply on2_el h;clear h;intro p q h
   apply onName_el h;clear h;intro c Z h
   apply onName_el h;clear h;intro d Z h
   cases eqB (andB h).1;cases eqB (andB h).2
   exact ⟨_,_,_,_,rfl⟩
  refine ea41 htg' fun pa pb kk' tp Z4=> ?_;subst Z4
  have c₁:Chg (·∈ O) (fun Z=>False) s { s with heap:=h',toks:=tk }:=⟨fun b o hb e'=>hk b o (off hb) e',rfl,fun Z Z Z e=>e,fun h=>h⟩
  have g₁:GS T V env sc ρ { s with heap:=h',toks:=tk }:=g.g.move (hO.top _ _ g.g.st.tp fun b o hb e'=>hk b o (off hb) e') fun b o hb e'=>hk b o (offS hb) e'
  refine WT.go _ _ _ i T₁ _ _ _ hMid fun h₂ hSt₂ hk₂=> ?_
  have c₂:Chg (·∈ O) (fun Z=>False) { s with heap:=h',toks:=tk } { s with heap:=h₂,toks:=tk }:=⟨fun b o hb e'=>hk₂ b o (off hb) e',rfl,fun Z Z Z e=>e,fun h=>h⟩
  have g₂:GS T V env sc ρ { s with heap:=h₂,toks:=tk }:=g₁.move (hO.top _ _ g₁.st.tp fun b o hb e'=>hk₂ b o (off hb) e') fun b o hb e'=>hk₂ b o (offS hb) e'
  have hTup₂:h₂.IsTuple T₁ #[.int (i:Int) tk2,.str ⟨#[cc]⟩ u]:=by
   refine ea12 hTup fun o ho r=> ?_
   exact ⟨o,hk₂ _ o (WT.apart _ _ _ hMid) ho,r⟩
  refine rwl (assign_Tuple _ _ _ _) ?_
  refine wpAny_bind (wpAny_standAt ?_)
  refine wpAny_unpack_tuple hh' hTup₂ (by rfl) (by rfl) fun h₃ hk₃=> ?_
  have x₃:Ext { s with heap:=h₂,toks:=tk } { s with heap:=h₃,toks:=tk }:=Ext.heap tk fun b o e'=>hk₃ b o (Nat.ne_of_lt (Heap.lt_size e')) e'
  have g₃:=g₂.ext C.top x₃
  refine wpAny_assignInOrder_more (wpAny_assign_Name (g_store hO g₃ hnp (d:= .int (i:Int)) rfl (.int _ _) fun s₄ g₄ c₄ Z=> ?_))
  refine wpAny_assignInOrder_more (wpAny_assign_Name (g_store hO g₄ hnc (d:= .str (one cc)) rfl (.str _ _ hasc) fun s₅ g₅ c₅ Z=> ?_))
  refine wpAny_assignInOrder_none ?_
  generalize hρ₅:upd (upd ρ nPos (.d (.int (i:Int)))) nCh (.d (.str (one cc)))=ρ₅ at g₅
  have l1:lk ρ₅ nEsc = .d (.bool esc):=by refine lwr hρ₅ (rwl (upd_ne rfl) (rwl (upd_ne rfl) ?_));exact g.e
  have l2:lk ρ₅ nPos = .d (.int (i:Int)):=by refine lwr hρ₅ (rwl (upd_ne rfl) ?_);exact upd_eq
  have l3:lk ρ₅ nCh = .d (.str (one cc)):=by refine lwr hρ₅ ?_;exact upd_eq
  have hcS : ∀ {a b:Shared},Chg (Slots env) (fun Z=>False) a b->Chg (·∈ O) (fun Z=>False) a b:=fun c=>c.mono hO.slot fun Z q=>q
  have cAll:Chg (·∈ O) (fun Z=>False) s₀ s₅:=hc.trans (c₁.trans (c₂.trans (x₃.chg.trans ((hcS c₄).trans (hcS c₅)))))
  have noS:=gen_noS hes his
  have st₅:ES e it x t s₅.heap (i+1):=
   es_keep (show ES e it x t h₂ (i+1) from hSt₂) fun y hy o e'=>c₅.keep y o (noS y hy) (c₄.keep y o (noS y hy) (x₃.keep y o e'))
  have next : ∀ (esc':Bool) (s₆ s₇:Shared) (ρ₇:Loc) (pre':List D),GS T V env sc ρ₇ s₇->lk ρ₇ nEsc = .d (.bool esc')->lk ρ₇ nPos = .d (.int (i:Int))->ES e it x t s₇.heap (i+1)->Chg (·∈ O) (fun Z=>False) s₆ s₇->items=pre'++escGo esc' (i+1) (x.cps.toList.drop (i+1)) ->
    Seg (model prog w) A (RP O) (YP T items O) (escGo esc' (i+1) (x.cps.toList.drop (i+1))).length s₆ (.forLoop (.Tuple [.Name nPos pa,.Name nCh pb] kk' tp) (.ref e) body [] env) (.pure (.again (.forLoop (.Tuple [.Name nPos pa,.Name nCh pb] kk' tp) (.ref e) body [] env))) fs s₇:=fun esc' s₆ s₇ ρ₇ pre' g₇ e1 e2 st₇ c₇ hit'=>
   seg_again rfl (ih (i+1) esc' s₆ s₇ ρ₇ pre' (by exact H404 hj) hlt ⟨g₇,e1,by exact e2⟩ st₇ c₇ hit')
  exact hB A _ fs _ _ _ _ esc i cc _ ρ₅ s₀ s₅ pre hfs1 rfl hfs2 rm' g₅ l1 l2 l3 st₅ cAll hit next
end
section
variable {prog:Program} {w:World} {T:Heap->Prop} {V:Value->Prop} {F:Str->Option Addr} {Φ B:Fns} {k:Nat} {env:Env} {sc:Sc}
theorem room_over {A:Around} {k:Nat} (r:Room A (k+1)) {body:List Stmt} {env env':Env} {tg:Expr} {v:Value} {b:List Stmt} {kk:Result->Sem PySem.Fin} {l:List Value} {p:Pos}:Room (A.in1.over (.forLoop tg v b [] env') [.ret kk none false l (.func body env) p []]) k:=by
 refine ⟨r.hh,?_,?_⟩
 ·have:=r.dp
  show A.depth+1+0+k<recursionLimit
  exact H23 this
 ·have:=r.un
  have e:(A.in1.over (.forLoop tg v b [] env') [.ret kk none false l (.func body env) p []]).units=A.in1.units+3+0:=rfl
  have e1:A.in1.units=A.units+1:=rfl
  exact H516 this e
theorem room_func {A:Around} {k:Nat} (r:Room A (k+1)) {body:List Stmt} {env:Env}:Room (A.in1.over (.func body env) []) k:=by
 refine ⟨r.hh,?_,?_⟩
 ·have:=r.dp
  show A.depth+0+1+k<recursionLimit
  exact H23 this
 ·have:=r.un
  have e:(A.in1.over (.func body env) []).units=A.in1.units+0+3:=rfl
  have e1:A.in1.units=A.units+1:=rfl
  exact H516 this e
noncomputable def GFin (prog:Program) (w:World) (T:Heap->Prop) (V:Value->Prop) (k:Nat) (env:Env) (sc:Sc) (x:Str) (fin:Stmt):Prop:=
 ∀ (A:Around) (O:List Addr) (items:List D) (c:Code) (K:Flow->Sem PySem.Fin) (H:Value->Sem PySem.Fin) (gd:Bool->Bool) (lv:List Value->List Value) (esc:Bool) (s₀ s:Shared) (ρ:Loc) (pre:List D),gd false=false->Room (A.over c []) k->(∀ a,Slots env a->a∈O) ->
  GI T V env sc x esc x.cps.size ρ s->(∀ b∈O,∃ o,s.heap.get? b=some o /\ ¬ isSeq o)->Chg (·∈ O) (fun Z=>False) s₀ s->items=pre++escGo esc x.cps.size []->(∀ s₁ s₂,Chg (·∈ O) (fun Z=>False) s₁ s₂->Seg (model prog w) A (RP O) (YP T items O) 0 s₁ c (K .next) [] s₂) ->
  Seg (model prog w) A (RP O) (YP T items O) (escGo esc x.cps.size []).length s₀ c ((exec fin env).wrap K H gd lv) [] s
theorem gen_fin (C:Ctx prog w T V F Φ B k) {x:Str} {c3 y3:Expr} {q1 q2 q3:Pos} (hco:env.scope.isCoroutine=false) (mc3:mt (.var nEsc) sc c3=true) (my3:mt (.tup (.cons (.var nPos) (.cons (.c (.str bsl)) .nil))) sc y3=true) :
  GFin prog w T V k env sc x (.If c3 [.Expr (.Yield (some y3) q1) q2] [] q3):=by
 intro A O items c K H gd lv esc s₀ s ρ pre hgd rm hsl gi hlive hc hit hend
 refine (seg_If ((all_se C (.var nEsc)).2 sc c3 _ env [] ρ s (.bool esc) esc _ _ mc3 rm gi.g.st (by show (match lk ρ nEsc with | .d d=>some d|_=>none)=_;exact rwl gi.e rfl) rfl fun s₅ x₅=> ?_))
 have g₅:=gi.g.ext C.top x₅
 have c₅:=hc.trans (x₅.chg (P:=(·∈ O)) (G:=fun Z=>False))
 rcases esc with _|_
 ·skip
  exact hend _ _ c₅
 ·skip
  refine seg_execs_cons (g_yield C (pre:=pre) (rest:=[]) (ds:=[.int ((x.cps.size-1:Nat):Int),.str bsl]) rfl hgd rfl hco rm g₅ my3 ?_ rfl hit c₅ hsl (fun b hb=> ?_) fun s₆ x₆ s₇ hT' hal g₇=> ?_)
  ·exact bindI (evv gi.p) (mapI (a:=[PyData.str bsl]) (bindI rfl (mapI (a:=[]) rfl)))
  ·obtain ⟨o,e,q⟩:=hlive b hb
   exact ⟨o,x₅.keep b o e,q⟩
  ·exact hend _ _ (Chg.refl _)
theorem gen_core (C:Ctx prog w T V F Φ B k) {A:Around} {x:Str} {s:Shared} {ρ:Loc} {v1 v2 tg:Expr} {lb:List Stmt} {fin:Stmt} {z1 z2 z3 z4 z5 z6 z7 z8:Pos} (rm:Room A (k+1)) (hbase : ∃ h₁:Heap,h₁.get? env.locals=none /\ ∀ h,T h ↔ ∀ b o,h₁.get? b=some o->h.get? b=some o)
  (hcells : ∀ y,env.cells.lookup y=none) (hco:env.scope.isCoroutine=false) (hx:strA x=true) (g:GS T V env sc ρ s) (ha:lk ρ nAddr = .d (.str x)) (hloc:env.locals<s.heap.objs.size)
  (k1:isCst v1=true) (k2:isCst v2=true) (m1:mt (.c (.int 0)) sc v1=true) (m2:mt (.c (.bool false)) sc v2=true) (mtg:tgOk (.t [nPos,nCh]) tg=true) (hg:sc.lookup ("enumerate" : Str)=some .globalImplicit) (okp:okS sc nPos=true) (oke:okS sc nEsc=true) (okc:okS sc nCh=true) (oka:okS sc nAddr=true)
  (hB : ∀ O items e it {t},Own T env O->(∀ b∈O,Slots env b\/b=e\/b=it)->e∈O->it∈O->(∀ y,y=e\/y=it -> ¬ Slots env y)->GBody prog w T V k env sc O items e it x t lb) (hF:GFin prog w T V k env sc x fin) :
  Seg (model prog w) A.in1 (RP [env.locals,s.heap.objs.size+1,s.heap.objs.size]) (YP T (escItems x) [env.locals,s.heap.objs.size+1,s.heap.objs.size]) (escItems x).length s (.func [.Assign [.Name nPos z1] v1 z2,.Assign [.Name nEsc z3] v2 z4,.For tg (.Call (.Name ("enumerate" : Str) z5) [.Name nAddr z8] [] z6) lb [] z7,fin] env)
   ((model prog w).den (.func [.Assign [.Name nPos z1] v1 z2,.Assign [.Name nEsc z3] v2 z4,.For tg (.Call (.Name ("enumerate" : Str) z5) [.Name nAddr z8] [] z6) lb [] z7,fin] env)) [] s:=by
 obtain ⟨h₁,hL,hT⟩:=hbase
 have hsl : ∀ a,Slots env a->a=env.locals:=fun a h=>by
  rcases h with h|⟨y,hy⟩
  ·exact h
  ·rw [hcells] at hy;exact nnE hy
 generalize hOd:[env.locals,s.heap.objs.size+1,s.heap.objs.size]=O
 have hfr : ∀ b,s.heap.get? b=none->h₁.get? b=none:=fun b q=>by
  rcases e:h₁.get? b with _|o
  ·rfl
  ·rw [(hT _).mp g.st.tp b o e] at q;exact nomatch q
 have hO:Own T env O:=⟨fun h h' ht hk=>(hT h').mpr fun b o e=>hk b o (fun q=>by
   rw [<- hOd] at q
   simp only [List.mem_cons,List.not_mem_nil,or_false] at q
   rcases q with rfl|rfl|rfl
   ·rw [hL] at e;exact nnE e
   ·rw [hfr _ (get?_lt (Nat.le_succ _))] at e;exact nnE e
   ·rw [hfr _ (get?_lt (Nat.le_refl _))] at e;exact nnE e) ((hT h).mp ht b o e),fun a h=>by refine rwl (hsl a h) (lwr hOd ?_);simp⟩
 have nst:notStar (.Name nAddr z8)=true:=rfl
 refine seg_func ?_
 have hcS : ∀ {a b:Shared},Chg (Slots env) (fun Z=>False) a b->Chg (·∈ O) (fun Z=>False) a b:=fun c=>c.mono hO.slot fun Z q=>q
 refine seg_execs_cons (seg_st (g_asg0 hO g okp (.inl ⟨0,rfl⟩) k1 m1 fun s₁ g₁ ch₁ z₁=> ?_))
 refine seg_execs_cons (seg_st (g_asg0 hO g₁ oke (.inr ⟨false,rfl⟩) k2 m2 fun s₂ g₂ ch₂ z₂=> ?_))
 have hz:s₂.heap.objs.size=s.heap.objs.size:=z₂.trans z₁
 have c₂:=(hcS ch₁).trans (hcS ch₂)
 generalize hρ₂:upd (upd ρ nPos (.d (.int 0))) nEsc (.d (.bool false))=ρ₂ at g₂
 have l1:lk ρ₂ nEsc = .d (.bool false):=by refine lwr hρ₂ ?_;exact upd_eq
 have l2:lk ρ₂ nPos = .d (.int 0):=by refine lwr hρ₂ (rwl (upd_ne rfl) ?_);exact upd_eq
 have l3:lk ρ₂ nAddr = .d (.str x):=by refine lwr hρ₂ (rwl (upd_ne rfl) (rwl (upd_ne rfl) ?_));exact ha
 refine seg_execs_cons (seg_For (fun Z=>rfl) ?_)
 have hb:bltV ("enumerate" : Str)=some (.type "enumerate"):=by rfl
 refine wpAny_Call_Name_kw (name_glob g₂.st.es hg (by rfl) (C.top.blt _ g₂.st.tp _ _ hb) ?_)
 refine callWith_of (P:=fun Z=>True) (by refine rwl (starEach_cons nst) ?_;rfl) (fun h' Z=>⟨.machine,.inr (.inl rfl),keeper_mach fun a q=>by exact nomatch q⟩) ?_
 refine rwl (starEach_cons nst) ?_
 refine ea12 (g₂.st.br.d nAddr _ (holds_ok oka) l3) fun va hva rva=> ?_
 revert hva;apply rva.str_el;intro t hs hva
 refine evalArgs_plain (PySem.Calls.spliced_cons (name_holds g₂.st.es (holds_ok oka) hva (PySem.Calls.spliced_nil ⟨trivial,?_⟩)))
 refine call_enumerate_str fun h' hen hsi hsz hk=> ?_
 have hst:strIterType x = "str_ascii_iterator" := by
  have hx':(x.cps.all fun x=>decide (x<128))=true:=hx
  unfold strIterType;exact rwl (if_pos hx') rfl
 rw [hst] at hsi
 refine wpAny_pyIter_enum hen fun p=> ?_
 have x₃:Ext s₂ { s₂ with heap:=h' }:=Ext.heap s₂.toks hk
 have g₃:=g₂.ext C.top x₃
 have hne:s₂.heap.objs.size+1≠s₂.heap.objs.size:=Nat.succ_ne_self _
 have hitems:escItems x=[]++escGo false 0 (x.cps.toList.drop 0):=by simp [escItems]
 have hlen:(escItems x).length=(escGo false 0 (x.cps.toList.drop 0)).length:=by simp [escItems]
 refine rwl hlen ?_
 have hOe : ∀ b∈O,Slots env b\/b=s₂.heap.objs.size+1\/b=s₂.heap.objs.size:=fun b hb=>by
  rw [<- hOd] at hb
  refine rwl hz ?_
  simp only [List.mem_cons,List.not_mem_nil,or_false] at hb
  exact hb.imp (fun q=> .inl q) id
 have he:s₂.heap.objs.size+1∈O:=by refine lwr hOd (rwl hz ?_);simp
 have hi:s₂.heap.objs.size∈O:=by refine lwr hOd (rwl hz ?_);simp
 have hes : ¬ Slots env (s₂.heap.objs.size+1):=fun q=>absurd hloc (by refine lwr (hsl _ q) (rwl hz ?_);exact Nat.not_lt.mpr (Nat.le_succ _))
 have his : ¬ Slots env s₂.heap.objs.size:=fun q=>absurd hloc (by refine lwr (hsl _ q) (rwl hz ?_);exact Nat.lt_irrefl _)
 refine gen_loop C (A:=A.in1) (O:=O) (e:=s₂.heap.objs.size+1) (it:=s₂.heap.objs.size) (x:=x) (t:=t) (items:=escItems x) hO hOe he hi hne hes his hx hco (fun Z=>room_over rm) mtg (hB _ _ _ _ hO hOe he hi (gen_noS hes his)) okp okc ?_
  (x.cps.size-0) 0 false s _ ρ₂ [] rfl (Nat.zero_le _) ⟨g₃,l1,l2⟩ ⟨⟨_,hen⟩,hsi⟩ (c₂.trans x₃.chg) hitems
 intro esc s₀ s₄ ρ₄ pre gi hlive hc hit
 exact seg_execs_cons (hF _ O _ _ _ _ _ _ esc s₀ s₄ ρ₄ pre rfl (room_func rm) hO.slot gi hlive hc hit fun Z Z c=>seg_end (.ok (.ret .none)) ⟨rfl,rfl,c⟩)
theorem gen_first (C:Ctx prog w T V F Φ B k) {A:Around} {body:List Stmt} {x:Str} {s:Shared} {ρ:Loc} (rm:Room A (k+1)) (hbase : ∃ h₁:Heap,h₁.get? env.locals=none /\ ∀ h,T h ↔ ∀ b o,h₁.get? b=some o->h.get? b=some o)
  (hcells : ∀ y,env.cells.lookup y=none) (hok:GenOk sc body) (hco:env.scope.isCoroutine=false) (hx:strA x=true) (g:GS T V env sc ρ s) (ha:lk ρ nAddr = .d (.str x)) (hloc:env.locals<s.heap.objs.size) :
  Seg (model prog w) A.in1 (RP [env.locals,s.heap.objs.size+1,s.heap.objs.size]) (YP T (escItems x) [env.locals,s.heap.objs.size+1,s.heap.objs.size]) (escItems x).length s (.func body env) ((model prog w).den (.func body env)) [] s:=by
 cases hok with|mk k1 k2 m1 m2 m3 m4 mtg hg my _ mc1 mc3 mc2 my1 my2 my3 okp oke okc oka=>
 apply onName_el my;intro z Z h
 cases eqB (andB h).1
 exact gen_core C rm hbase hcells hco hx g ha hloc k1 k2 m1 m2 mtg (eqB hg) okp oke okc oka (fun Z Z Z Z Z hO hOe he hi noS=>gen_body C hco m3 m4 mc1 mc2 my1 my2 oke hO hOe he hi noS) (gen_fin C hco mc3 my3)
end
theorem set_ne {a:Array GenState} {g j:Nat} {x:GenState} (h : ¬ j=g):(a.setIfInBounds g x)[j]? = a[j]? := Array.getElem?_setIfInBounds_ne (Ne.symm h)
theorem set_eq {a:Array GenState} {g:Nat} {x y:GenState} (h:a[g]? = some y):(a.setIfInBounds g x)[g]? = some x:=by
 obtain ⟨hlt,_⟩:=Array.getElem?_eq_some_iff.mp h
 exact Array.getElem?_setIfInBounds_self_of_lt hlt
theorem set_bare {a:Array GenState} {g:Nat} {x:GenState} (hx:x.bare=true) (h : ∀ y∈a,y.bare=true) : ∀ y∈a.setIfInBounds g x,y.bare=true:=by
 intro y hy
 obtain ⟨j,hj⟩:=Array.mem_iff_getElem?.mp hy
 by_cases q:j=g
 ·subst q
  rcases e:a[j]? with _|z
  ·have:a.size<=j:=by
    rcases Nat.lt_or_ge j a.size with z|z
    ·rw [Array.getElem?_eq_getElem z] at e;cases e
    ·exact z
   rw [Array.getElem?_eq_none (by simpa using this)] at hj
   cases hj
  ·rw [set_eq e] at hj;obtain rfl:=Option.some.inj hj;exact hx
 ·rw [set_ne q] at hj
  exact h y (Array.mem_iff_getElem?.mpr ⟨j,hj⟩)
section
variable {prog:Program} {w:World} {T:Heap->Prop} {V:Value->Prop} {F:Str->Option Addr} {Φ B:Fns} {k:Nat} {env:Env} {sc:Sc}
theorem gen_run {A:Around} {I:Addr} {gi n:Nat} {O:List Addr} {items:List D} {gs:GenState} {s:Shared} {Q:Option Value->Shared->Prop} {E:Value->Shared->Prop} (hh:A.handled=none) (hroom:A.depth<recursionLimit) (hlim:s.heap.NoLimit) (hT:T s.heap) (hI:I∉O)
  (hg:s.heap.IsGen I gi) (hgs:s.gens[gi]? = some gs) (hgo:gs.Goes (model prog w) A.in1 (RP O) (YP T items O) n (.send .none) (s.setGen gi .running))
  (hd:n=0 -> ∀ s',Chg (·∈ O) (·= gi) s s'->Q none s')
  (hy : ∀ m,n=m+1 -> ∀ v s₁ gs',gs'.bare=true->T s₁.heap->s₁.heap.IsGen I gi->s₁.gens[gi]? = some gs'->(∀ d,items[items.length-1-m]? = some d -> ∀ W,Shut W s₁.heap->Rep W s₁.heap v d)->Chg (·∈ O) (·= gi) s s₁->(∀ b∈O,∃ o,s₁.heap.get? b=some o /\ ¬ isSeq o) ->
   (∀ s'':Shared,T s''.heap->(∀ b∈O,∀ o,s₁.heap.get? b=some o->s''.heap.get? b=some o)->gs'.Goes (model prog w) A.in1 (RP O) (YP T items O) m (.send .none) s'')->Q (some v) s₁) :
  wpAny (model prog w) A (pyNext (.ref I)) Q E s:=by
 have chg : ∀ {s₁:Shared} {x:GenState} {h':Heap},x.bare=true->Chg (·∈ O) (fun Z=>False) (s.setGen gi .running) s₁->(∀ b o,s₁.heap.get? b=some o->h'.get? b=some o)->Chg (·∈ O) (·= gi) s { s₁.setGen gi x with heap:=h' }:=fun {s₁ x h'} hx c hk=>by
  refine ⟨fun b o hb e=>hk b o (c.keep b o hb e),c.os,fun j y hj e=> ?_,fun hb=> ?_⟩
  ·show (s₁.gens.setIfInBounds gi x)[j]? = some y
   refine rwl (set_ne hj) ?_
   refine c.gen j y (fun q=>q) ?_
   show (s.gens.setIfInBounds gi .running)[j]? = some y
   refine rwl (set_ne hj) ?_;exact e
  ·show ∀ y∈s₁.gens.setIfInBounds gi x,y.bare=true
   exact set_bare hx (c.bare (set_bare rfl hb))
 refine next_gen (P:=fun n s₀ s₁=>n=0/\Chg (·∈ O) (fun Z=>False) s₀ s₁) hh hlim hroom hg hgs hgo (fun v s₁ gs' hb hv=> ?_) fun s₁ hP h' hk=> ?_
 ·have hlt:=hv.1;have hrep:=hv.2.1;have c:=hv.2.2.1;have hT':=hv.2.2.2.1;have hl:=hv.2.2.2.2.1;have hk:=hv.2.2.2.2.2
  rcases n with _|m
  ·exact (hk s₁ hT' fun Z Z Z e=>e).elim
  ·have hrun:s₁.gens[gi]? = some .running:=c.gen gi _ (fun q=>q) (set_eq hgs)
   have hIg:s₁.heap.IsGen I gi:=by
    refine ea32 hg fun o nm qn ho r=> ?_
    exact ⟨o,nm,qn,c.keep I o hI ho,r⟩
   exact hy m rfl v (s₁.setGen gi gs') gs' hb hT' hIg (set_eq hrun) hrep (chg (h':=s₁.heap) hb c fun Z Z e=>e) hl hk
 ·exact hd hP.1 _ (chg rfl hP.2 hk)
theorem gen_itc {I:Addr} {gi:Nat} {O:List Addr} {gs:GenState} {s₁:Shared} (hlive : ∀ b∈O,∃ o,s₁.heap.get? b=some o /\ ¬ isSeq o) :
  ItC prog w T I (fun b=>b∈O\/b=I) (·= gi) (fun Z s=>T s.heap/\s.heap.IsGen I gi/\s.gens[gi]? = some gs /\ ∀ b∈O,∀ o,s₁.heap.get? b=some o->s.heap.get? b=some o):=by
 refine ⟨fun W s s' ⟨h1,⟨o,nm,qn,ho,r⟩,h3,h4⟩ hT hk hg=>⟨hT,⟨o,nm,qn,hk I o (.inl (.inr rfl)) ho,r⟩,hg gi _ rfl h3,fun b hb o e=>hk b o (.inl (.inl hb)) (h4 b hb o e)⟩,fun Z Z Z h Z=>h,fun W s a ⟨h1,⟨o,nm,qn,ho,r⟩,h3,h4⟩ ha=> ?_,fun W s j ⟨_,_,h3,_⟩ hj=>⟨gs,hj▸h3⟩,fun W s ⟨h1,⟨o,nm,qn,ho,_,r,_⟩,h3,h4⟩ a ha o' e=> ?_,fun A W s t v Q E ⟨_,⟨o,nm,qn,ho,hc,_⟩,_⟩ h=>letgo_other ho hc rfl h⟩
 ·rcases ha with ha|rfl
  ·refine ea12 (hlive a ha) fun o e Z=> ?_;exact ⟨o,h4 a ha o e⟩
  ·exact ⟨o,ho⟩
 ·rcases ha with ha|rfl
  ·refine ea12 (hlive a ha) fun o₂ e₂ q=> ?_
   rw [h4 a ha o₂ e₂] at e;obtain rfl:=Option.some.inj e;exact q
  ·rw [ho] at e;obtain rfl:=Option.some.inj e
   rintro ⟨vs,n,q|q⟩<;>(rw [q] at r;cases r)
theorem gen_stage {I:Addr} {gi:Nat} {O:List Addr} {items:List D} (hlim : ∀ h,T h->h.NoLimit) (hI:I∉O) : ∀ (rest pre:List D) (gs:GenState) (s₁:Shared),items=pre++rest->(∀ b∈O,∃ o,s₁.heap.get? b=some o /\ ¬ isSeq o) ->
  (∀ s'':Shared,T s''.heap->(∀ b∈O,∀ o,s₁.heap.get? b=some o->s''.heap.get? b=some o)->gs.Goes (model prog w) (Abig (k+1)).in1 (RP O) (YP T items O) rest.length (.send .none) s'') ->
  Itr prog w T (k+1) I rest (fun b=>b∈O\/b=I) (·= gi) (fun Z s=>T s.heap/\s.heap.IsGen I gi/\s.gens[gi]? = some gs /\ ∀ b∈O,∀ o,s₁.heap.get? b=some o->s.heap.get? b=some o)
 | [],pre,gs,s₁,hit,hlive,hready=>by
  refine ⟨gen_itc hlive,fun A W s Q E rm ⟨h1,h2,h3,h4⟩ h=>wpAny_big rm (gen_run rfl (by have:=(room_big rm).dp;exact Nat.lt_of_add_right_lt this) (hlim _ h1) h1 hI h2 h3 (hready _ h1 h4) (fun Z s' c=>h s' (c.mono (fun Z q=> .inl q) fun Z q=>q)) fun m hm=>by cases hm)⟩
 | d::r,pre,gs,s₁,hit,hlive,hready=>by
  refine ⟨gen_itc hlive,fun A W s Q E rm ⟨h1,h2,h3,h4⟩ h=>wpAny_big rm (gen_run rfl (by have:=(room_big rm).dp;exact Nat.lt_of_add_right_lt this) (hlim _ h1) h1 hI h2 h3 (hready _ h1 h4) (fun hn=>by simp at hn) fun m hm v s₂ gs' hb hT' hg' hgs' hrep c hl hk=> ?_)⟩
  have hm':m=r.length:=by simpa using hm.symm
  subst hm'
  refine h v s₂ _ _ _ (gen_stage hlim hI r (pre++[d]) gs' s₂ (by refine rwl hit ?_;simp) hl hk) ⟨hT',hg',hgs',fun Z Z Z e=>e⟩ (fun a q=> .inl q) (fun j q=> .inl q) (c.mono (fun Z q=> .inl q) fun Z q=>q) fun hW=>hrep d ?_ W hW
  have:items.length-1-r.length=pre.length:=by refine rwl hit ?_;simp
  refine rwl this (rwl hit ?_);simp
end
section
variable {prog:Program} {w:World} {T:Heap->Prop} {V:Value->Prop} {F:Str->Option Addr} {Φ B:Fns} {k:Nat} {env:Env} {sc:Sc}
theorem ns_ne_gen {h:Heap} {a b:Addr} {gi:Nat} {m:Str->Option Value} (hn:h.Ns a m) (hg:h.IsGen b gi):b≠a:=by
 rintro rfl
 obtain ⟨o,es,ep,e,hd,_⟩:=hn
 obtain ⟨o',nm,qn,e',_,hd',_⟩:=hg
 rw [e] at e';obtain rfl:=Option.some.inj e'
 rw [hd] at hd';cases hd'
theorem gen_start (C:Ctx prog w T V F Φ B k) {body:List Stmt} {x:Str} {I:Addr} {gi:Nat} {ρ:Loc} (hlim : ∀ h,T h->h.NoLimit) (hbase : ∃ h₁:Heap,h₁.get? env.locals=none /\ ∀ h,T h ↔ ∀ b o,h₁.get? b=some o->h.get? b=some o)
  (hcells : ∀ y,env.cells.lookup y=none) (hok:GenOk sc body) (hco:env.scope.isCoroutine=false) (hx:strA x=true) (ha:lk ρ nAddr = .d (.str x)) :
  Itr prog w T (k+1) I (escItems x) (fun b=>b=env.locals\/b=I) (·= gi) (fun Z s=>s.heap.IsGen I gi/\s.gens[gi]? = some (.fresh (.func body env))/\GS T V env sc ρ s):=by
 have hsl : ∀ a,Slots env a->a=env.locals:=fun a h=>by
  rcases h with h|⟨y,hy⟩
  ·exact h
  ·rw [hcells] at hy;cases hy
 have itc:ItC prog w T I (fun b=>b=env.locals\/b=I) (·= gi) (fun Z s=>s.heap.IsGen I gi/\s.gens[gi]? = some (.fresh (.func body env))/\GS T V env sc ρ s):=by
  refine ⟨fun W s s' ⟨⟨o,nm,qn,ho,r⟩,h3,g⟩ hT hk hg=>⟨⟨o,nm,qn,hk I o (.inl (.inr rfl)) ho,r⟩,hg gi _ rfl h3,g.move hT fun b o hb e=>hk b o (.inl (.inl (hsl b hb))) e⟩,fun Z Z Z h Z=>h,fun W s a ⟨⟨o,nm,qn,ho,r⟩,h3,g⟩ ha=> ?_,fun W s j ⟨_,h3,_⟩ hj=>⟨_,hj▸h3⟩,fun W s ⟨⟨o,nm,qn,ho,_,r,_⟩,h3,g⟩ a ha o' e=> ?_,fun A W s t v Q E ⟨⟨o,nm,qn,ho,hc,_⟩,_⟩ h=>letgo_other ho hc rfl h⟩
  ·rcases ha with rfl|rfl
   ·rcases e:s.heap.get? env.locals with _|o
    ·exact absurd e (slots_live g.st.fr (.inl rfl))
    ·exact ⟨o,rfl⟩
   ·exact ⟨o,ho⟩
  ·rcases ha with rfl|rfl
   ·refine ea11 g.st.fr.ns fun m hm=> ?_
    exact not_seq_ns hm _ e
   ·rw [ho] at e;obtain rfl:=Option.some.inj e
    rintro ⟨vs,n,q|q⟩<;>(rw [q] at r;cases r)
 have run : ∀ {A:Around} {s:Shared} {Q:Option Value->Shared->Prop} {E:Value->Shared->Prop},Room A (k+1)->s.heap.IsGen I gi->s.gens[gi]? = some (.fresh (.func body env))->GS T V env sc ρ s ->
   ((escItems x).length=0 -> ∀ s',Chg (fun b=>b=env.locals\/b=I) (·= gi) s s'->Q none s') ->
   (∀ d r,escItems x=d::r -> ∀ v s₁ own' G' P',Itr prog w T (k+1) I r own' G' P'->P' [] s₁->(∀ W,P' W s₁)->(∀ a,own' a->(a=env.locals\/a=I)\/s.heap.get? a=none)->(∀ j,G' j->j=gi\/s.gens[j]? = none)->Chg (fun b=>b=env.locals\/b=I) (·= gi) s s₁->(∀ W,Shut W s₁.heap->Rep W s₁.heap v d)->Q (some v) s₁) ->
   wpAny (model prog w) A (pyNext (.ref I)) Q E s:=fun {A s Q E} rm hg hgs g hd hy=>by
  have hloc:env.locals<s.heap.objs.size:=by refine ea11 g.st.fr.ns fun m hm=> ?_;exact hm.lt
  have hIL:I≠env.locals:=by refine ea11 g.st.fr.ns fun m hm=> ?_;exact ns_ne_gen hm hg
  have hIlt:I<s.heap.objs.size:=by refine ea32 hg fun o Z Z ho Z=> ?_;exact Heap.lt_size ho
  have hI:I∉[env.locals,s.heap.objs.size+1,s.heap.objs.size]:=by
   simp only [List.mem_cons,List.not_mem_nil,or_false,not_or]
   exact ⟨hIL,Nat.ne_of_lt (Nat.lt_succ_of_lt hIlt),Nat.ne_of_lt hIlt⟩
  have cc : ∀ {s':Shared},Chg (·∈ [env.locals,s.heap.objs.size+1,s.heap.objs.size]) (·= gi) s s'->Chg (fun b=>b=env.locals\/b=I) (·= gi) s s':=fun c=>by
   refine ⟨fun b o hb e=>c.keep b o (fun q=> ?_) e,c.os,c.gen,c.bare⟩
   have hlt:=Heap.lt_size e
   simp only [List.mem_cons,List.not_mem_nil,or_false] at q
   rcases q with q|q|q
   ·exact hb (.inl q)
   ·rw [q] at hlt;exact absurd hlt (Nat.not_lt.mpr (Nat.le_succ _))
   ·rw [q] at hlt;exact Nat.lt_irrefl _ hlt
  refine wpAny_big rm (gen_run (items:=escItems x) (n:=(escItems x).length) rfl (by have:=(room_big rm).dp;exact Nat.lt_of_add_right_lt this) (hlim _ g.st.tp) g.st.tp hI hg hgs ⟨rfl,?_⟩ (fun hn s' c=>hd hn s' (cc c)) fun m hm v s₁ gs' hb hT' hg' hgs' hrep c hl hk=> ?_)
  ·have g':GS T V env sc ρ (s.setGen gi .running):=⟨⟨g.st.es,g.st.sh,g.st.tp,g.st.br,g.st.fr,g.st.tv⟩,g.fl,g.no,g.nv⟩
   exact gen_first C (room_big rm) hbase hcells hok hco hx g' ha hloc
  ·rcases hit:escItems x with _|⟨d,r⟩
   ·rw [hit] at hm;cases hm
   ·rw [hit] at hm hrep hk
    have hm':m=r.length:=by simpa using hm.symm
    subst hm'
    refine hy d r hit v s₁ _ _ _ (gen_stage (items:=d::r) hlim hI r [d] gs' s₁ rfl hl hk) ⟨hT',hg',hgs',fun Z Z Z e=>e⟩ (fun W=>⟨hT',hg',hgs',fun Z Z Z e=>e⟩) (fun a q=> ?_) (fun j q=> .inl q) (cc c) fun W hW=>hrep d (by simp) W hW
    rcases q with q|q
    ·simp only [List.mem_cons,List.not_mem_nil,or_false] at q
     rcases q with q|q|q
     ·exact .inl (.inl q)
     ·exact .inr (get?_lt (by refine rwl q ?_;exact Nat.le_succ _))
     ·exact .inr (get?_lt (by refine rwl q ?_;exact Nat.le_refl _))
    ·exact .inl (.inr q)
 rcases hit:escItems x with _|⟨d,r⟩
 ·exact ⟨itc,fun A W s Q E rm ⟨h1,h2,g⟩ h=>run rm h1 h2 g (fun Z=>h) fun d r e=>nomatch hit.symm.trans e⟩
 ·refine ⟨itc,fun A W s Q E rm ⟨h1,h2,g⟩ h=>run rm h1 h2 g (fun hn=>by rw [hit] at hn;cases hn) fun d' r' e v s₁ own' G' P' itr hp hpW ho hG c hrep=> ?_⟩
  rw [hit] at e
  cases e
  exact h v s₁ own' G' P' itr (hpW W) ho hG c (hrep W)
theorem gen_ok (C:Ctx prog w T V F Φ B k) {a:Addr} {fd:FuncData} {body:List Stmt} {x:Str} (I:FnIs T a fd [nAddr] body) (hgen:fd.scope.isGenerator=true) (hok:GenOk fd.scope.names body) (hnc:fd.scope.names.all (fun x=> !(x.2 == .cell))=true)
  (hbase : ∃ h₁:Heap,∀ h,T h ↔ ∀ b o,h₁.get? b=some o->h.get? b=some o)
  (A:Around) (s:Shared) (W:List Addr) (v:Value) (Q:Value->Shared->Prop) (E:Value->Shared->Prop) (rm:Room A (k+1)) (hT:T s.heap) (hW:Shut W s.heap) (r:Rep W s.heap v (.str x))
  (h : ∀ I s' own G P,Ext s s'->(∀ b,own b->s.heap.get? b=none)->(∀ j,G j->s.gens[j]? = none)->Itr prog w T (k+1) I (escItems x) own G P->(∀ W' s'',(∀ b∈W',b∈W\/s'.heap.get? b=none)->Ext s' s''->P W' s'')->Q (.ref I) s') :
  wpAny (model prog w) A (call (.ref a) [v]) (fun x s₁=>wpAny (model prog w) A (pyIter x) Q E s₁) E s:=by
 obtain ⟨o,ho,hdata⟩:=I.at' _ hT
 have hx:strA x=true:=by cases r with|str _ _ ha=>exact ha
 refine wpAny_call (codeAny_call_generator (by have:=rm.dp;exact Nat.lt_of_add_right_lt this) ho hdata I.co hgen I.bd (I.cd _ hT) ?_)
 show wpAny _ _ (bindArgs fd ⟨[v],[]⟩) _ _ _
 refine rwl (I.bind [v] rfl) (rwl I.clo ?_)
 refine wpAny_pure (wpAny_newFunctionEnv_cells I.kd (fun y hy=> ?_) fun env he s₁ xc=> ?_)
 ·have hp:y.1∈[nAddr]:=(List.of_mem_zip hy).1
  have hs:=List.all_eq_true.mp I.ps _ hp
  rcases okS_hx hs with z|z
  ·exact .inl z
  ·have:=List.all_eq_true.mp hnc _ (mem_of_lookup z)
   simp at this
 ·have he':env=callEnvC fd s.heap.objs.size a:=he
  subst he'
  have f:=call_frame (V:=V) I hT hW C.top (ds:=[.str x]) (.cons r .nil) rfl xc
  have hcells : ∀ y,(callEnvC fd s.heap.objs.size a).cells.lookup y=none:=fun y=>by
   rcases e:(callEnvC fd s.heap.objs.size a).cells.lookup y with _|c
   ·rfl
   ·have:=List.all_eq_true.mp hnc _ (cellsFrom_mem _ _ _ _ (mem_of_lookup e))
    simp at this
  have hlt:=xc.toInCall.ns.lt
  have gs:GS T V (callEnvC fd s.heap.objs.size a) fd.scope.names (locOf [nAddr] [.str x]) s₁:=by
   have lk1 : ∀ y,lk (locOf [nAddr] [.str x]) y = .d (.str x)\/lk (locOf [nAddr] [.str x]) y = .un:=fun y=>by
    simp only [locOf,lk]
    split
    ·exact .inl rfl
    ·exact .inr rfl
   refine ⟨⟨f.st.es,fun b hb=>(nomatch hb),f.st.tp,⟨fun y d hy e=> ?_,fun y ds hy e=> ?_,fun y u hy e=> ?_⟩,f.st.fr,fun y u e=> ?_⟩,fun y d e=> ?_,fun y ds e=> ?_,fun y u e=> ?_⟩
   ·refine ea12 (f.st.br.d y d hy e) fun v h1 h2=> ?_
    refine ⟨v,h1,h2.flat ?_⟩
    rcases lk1 y with q|q<;>rw [q] at e<;>cases e;rfl
   all_goals first
    | (rcases lk1 y with q|q<;>rw [q] at e<;>cases e;done)
    | (rcases lk1 y with q|q<;>rw [q] at e<;>cases e;rfl)
  refine ⟨I.lim _ f.st.tp,?_⟩
  show wpAny _ _ (pyIter (.ref s₁.heap.objs.size)) _ _ _
  have hg:(s₁.heap.push { cls:= .type "generator", data:= .fields #[.int s₁.gens.size 0,.str fd.name s₁.toks,.str fd.qualname (s₁.toks+1)] }).IsGen s₁.heap.objs.size s₁.gens.size:=⟨_,_,_,Heap.get?_push_size _ rfl,rfl,rfl,rfl⟩
  have x₁:Ext s s₁:=f.done
  have x₂:Ext s₁ { s₁ with gens:=s₁.gens.push (.fresh (.func body (callEnvC fd s.heap.objs.size a))),toks:=s₁.toks+1+1,heap:=s₁.heap.push { cls:= .type "generator", data:= .fields #[.int s₁.gens.size 0,.str fd.name s₁.toks,.str fd.qualname (s₁.toks+1)] } }:=by
   refine ⟨fun b o e=>Heap.get?_push_of_some _ e,rfl,fun j y e=> ?_,fun hb y hy=> ?_⟩
   ·refine ea11 (Array.getElem?_eq_some_iff.mp e) fun hj e'=> ?_
    show (s₁.gens.push _)[j]? = some y
    rw [Array.getElem?_push_lt hj,e']
   ·rcases Array.mem_push.mp hy with q|q
    ·exact hb y q
    ·subst q;rfl
  refine wpAny_pyIter_gen hg (h _ _ _ _ _ (x₁.trans x₂) (fun b hb=> ?_) (fun j hj=> ?_) (gen_start C (sc:=fd.scope.names) (env:=callEnvC fd s.heap.objs.size a) (I:=s₁.heap.objs.size) (gi:=s₁.gens.size) (ρ:=locOf [nAddr] [.str x]) I.lim ?_ hcells hok I.co hx rfl) fun W' s'' hW' x₃=> ?_)
  ·rcases hb with rfl|rfl
   ·exact get?_lt xc.toInCall.fresh
   ·exact x₁.none (get?_lt (Nat.le_refl _))
  ·subst hj
   rcases e:s.gens[s₁.gens.size]? with _|y
   ·rfl
   ·have:=x₁.gen _ _ e
    rw [Array.getElem?_eq_none (Nat.le_refl _)] at this;cases this
  ·refine ea11 hbase fun h₁ hb=> ?_
   refine ⟨h₁,?_,hb⟩
   rcases e:h₁.get? (callEnvC fd s.heap.objs.size a).locals with _|o
   ·rfl
   ·have:=(hb _).mp hT _ o e
    rw [get?_lt xc.toInCall.fresh] at this;cases this
  ·refine ⟨hg.keeps x₃.keep,x₃.gen _ _ ?_,(gs.ext C.top x₂).ext C.top x₃⟩
   show (s₁.gens.push _)[s₁.gens.size]? = _
   simp
end
section
variable {prog:Program} {w:World} {A:Around} {E:Value->Shared->Prop} {s:Shared} {a:Addr} {vs:List Value}
theorem sort_keeps {n:Nat} {P:PySem.Fin->Shared->Prop} (ho:s.heap.get? a=some (seqObj "list" vs.toArray n)) (h2:2<=vs.length) (h64:vs.length<64)
  (h : ∀ h',(∀ b o,b≠a->s.heap.get? b=some o->h'.get? b=some o) ->
   wpAny (model prog w) A (keyKind' vs.toArray) (fun κ s'=>(kas_sort vs.length).kasWp (kas_ask prog w A κ vs) (fun p s''=>(∀ b o,h'.get? b=some o->s''.heap.get? b=some o) /\ ∀ h'' c,(∀ b o,b≠a->s''.heap.get? b=some o->h''.get? b=some o) ->
    h''.get? a=some (seqObj "list" (List.toArray (p.toList.map fun i=>vs.getD i Value.none)) c)->P (.done (.ret .none)) { s'' with heap:=h'' }) s') (fun Z Z=>False) { s with heap:=h' }) :
  wpAny (model prog w) A (Builtin.«list.sort» ⟨[.ref a],[]⟩) P E s:=by
 have ha:a<s.heap.objs.size:=Heap.lt_size ho
 have s1:=Heap.SameBut.update s.heap a (Obj.mapSeq fun Z=>(#[]:Array Value))
 obtain ⟨e1,ho1⟩ : ∃ e1,(s.heap.update a (Obj.mapSeq fun Z=>(#[]:Array Value))).get? a=some (seqObj "list" #[] e1):=⟨_,get?_update_seq ho fun Z=> #[]⟩
 have ask:=h (((s.heap.update a (Obj.mapSeq fun Z=>(#[]:Array Value))).push (seqObj "tuple" vs.toArray 0)).push (seqObj "list" #[] 0)) fun b o hb e=>Heap.get?_push_of_some _ (Heap.get?_push_of_some _ ((s1.2 b hb).trans e))
 refine rwl (list_sort_plain _) ?_
 refine wpAny_bind (listItems_at ho rfl ?_)
 refine wpAny_bind (listUpdate_at ho rfl ?_ (by refine rwl List.size_toArray (rwl sizeLine_eq ?_);exact Nat.le_trans (Nat.le_of_lt h64) (Nat.le_add_left 64 16777152)) (Nat.zero_le _))
 refine wpAny_bind (seqEpoch_at ho1 rfl ?_)
 refine wpAny_bind (wpAny_newTuple ?_ (by show vs.length<=_;refine rwl sizeLine_eq ?_;exact Nat.le_trans (Nat.le_of_lt h64) (Nat.le_add_left 64 16777152)))
 refine wpAny_bind (wpAny_newList ?_ (Nat.zero_le _))
 refine wpAny_holding ?_
 show wpAny (model prog w) A _ P E { s with heap:=((s.heap.update a (Obj.mapSeq fun Z=>(#[]:Array Value))).push (seqObj "tuple" vs.toArray 0)).push (seqObj "list" #[] 0) }
 have hn2 : ¬ vs.toArray.size<2:=by refine rwl List.size_toArray ?_;exact Nat.not_lt_of_le h2
 refine rwl (if_neg hn2) (rwl (if_neg hn2) ?_)
 refine wpAny_bind (wpAny_mono ask (fun κ s0 hk=> ?_) fun Z Z x=>x.elim)
 refine wpAny_bind (wpAny_mono (kat_run (ks:=vs) (Q:=fun st' s'=> ∃ p:Array Nat,p.size=vs.length/\arrOf st'=p.map (kas_item (vs.toArray.zip vs.toArray))/\failedOf st'=none/\((∀ b o,(((s.heap.update a (Obj.mapSeq fun Z=>(#[]:Array Value))).push (seqObj "tuple" vs.toArray 0)).push (seqObj "list" #[] 0)).get? b=some o->s'.heap.get? b=some o) /\ ∀ h'' c,(∀ b o,b≠a->s'.heap.get? b=some o->h''.get? b=some o) ->
    h''.get? a=some (seqObj "list" (List.toArray (p.toList.map fun i=>vs.getD i Value.none)) c)->P (.done (.ret .none)) { s' with heap:=h'' }))
  rfl h2 h64 (fun p' st' s' a1 a2 a3 a4=>⟨p',a1,a2,a3,a4⟩) hk) ?_ fun Z Z e=>e)
 rintro ⟨⟨⟩,st'⟩ s' ⟨p,hp,har,hf,hkeep,k⟩
 dsimp only
 have na:s'.heap.get? a=some (seqObj "list" #[] e1):=hkeep _ _ (Heap.get?_push_of_some _ (Heap.get?_push_of_some _ ho1))
 have hout:=kat_snds (ks:=vs) rfl har
 have hsz:(List.toArray (p.toList.map fun i=>vs.getD i Value.none)).size=vs.length:=by exact rwl List.size_toArray (rwl (List.length_map _) (rwl Array.length_toList (rwl hp rfl)))
 refine rwl hout ?_
 have s2:=Heap.SameBut.update s'.heap a (Obj.mapSeq fun Z=>List.toArray (p.toList.map fun i=>vs.getD i Value.none))
 obtain ⟨c2,hc2⟩ : ∃ c2,(s'.heap.update a (Obj.mapSeq fun Z=>List.toArray (p.toList.map fun i=>vs.getD i Value.none))).get? a=some (seqObj "list" (List.toArray (p.toList.map fun i=>vs.getD i Value.none)) c2):=⟨_,get?_update_seq na fun Z=>List.toArray (p.toList.map fun i=>vs.getD i Value.none)⟩
 refine wpAny_bind (seqEpoch_at na rfl ?_)
 refine wpAny_bind (listUpdate_at na rfl ?_ (Nat.zero_le _) (Nat.le_trans (Nat.le_of_eq hsz) (by refine rwl sizeLine_eq ?_;exact Nat.le_trans (Nat.le_of_lt h64) (Nat.le_add_left 64 16777153))))
 refine rwl hf ?_
 simp only [bne_self_eq_false,Bool.false_eq_true,if_false]
 exact wpAny_pure (k _ c2 (fun b o hb e=>(s2.2 b hb).trans e) hc2)
theorem asc_up {cmp:Nat->Nat->(Bool->Shared->Prop)->Shared->Prop} {n:Nat} {Inv:Shared->Prop} (hc : ∀ i s (C:Bool->Shared->Prop),i+1<n->Inv s->(∀ s',Inv s'->C false s')->cmp (i+1) i C s) :
  ∀ (f m:Nat) (s:Shared) (Q:Nat->Shared->Prop),1<=m->m+f=n->Inv s->(∀ s',Inv s'->Q n s')->(kas_asc (List.toArray (List.range n)) f m).kasWp cmp Q s
 | 0,m,s,Q,h1,hm,hi,h=>by
  have:m=n:=by exact hm
  subst this
  exact h s hi
 | f+1,m,s,Q,h1,hm,hi,h=>by
  have e1:(List.toArray (List.range n)).getD m 0=m:=by
   have:m<n:=by exact H52 hm
   simp [Array.getD,this]
  have e2:(List.toArray (List.range n)).getD (m-1) 0=m-1:=by
   have:m-1<n:=by exact H53 hm
   simp [Array.getD,this]
  show cmp ((List.toArray (List.range n)).getD m 0) ((List.toArray (List.range n)).getD (m-1) 0) _ s
  refine rwl e1 (rwl e2 ?_)
  have:=hc (m-1) s (fun b s'=>(if b=true then KasT.ret m else kas_asc (List.toArray (List.range n)) f (m+1)).kasWp cmp Q s') (by exact H54 h1 hm) hi fun s' hi'=>by
   show (if false=true then KasT.ret m else kas_asc (List.toArray (List.range n)) f (m+1)).kasWp cmp Q s'
   refine rwl (if_neg (by simp)) ?_
   exact asc_up hc f (m+1) s' Q (by exact Nat.le_add_left 1 _) (by exact hm▸Nat.succ_add_eq_add_succ _ _) hi' h
  rw [show m-1+1=m by exact Nat.sub_add_cancel h1] at this
  exact this
theorem sort_up {cmp:Nat->Nat->(Bool->Shared->Prop)->Shared->Prop} {n:Nat} {Inv:Shared->Prop} (hn:1<=n) (hc : ∀ i s (C:Bool->Shared->Prop),i+1<n->Inv s->(∀ s',Inv s'->C false s')->cmp (i+1) i C s)
  {s:Shared} {Q:Array Nat->Shared->Prop} (hi:Inv s) (h : ∀ s',Inv s'->Q (List.toArray (List.range n)) s'):(kas_sort n).kasWp cmp Q s:=by
 unfold kas_sort
 refine rwl (KasT.kasWp_bind _ _) ?_
 unfold kas_count
 refine rwl (KasT.kasWp_bind _ _) ?_
 refine asc_up hc (n-1) 1 s _ (Nat.le_refl _) (by exact Nat.add_sub_of_le hn) hi fun s' hi'=> ?_
 refine rwl (if_pos (by simp)) ?_
 show (if n<n then _ else _:KasT (Array Nat)).kasWp cmp Q s'
 refine rwl (if_neg (Nat.lt_irrefl _)) ?_
 exact h s' hi'
theorem range_all (vs:List Value):((List.toArray (List.range vs.length)).toList.map fun i=>vs.getD i Value.none)=vs:=by
 apply List.ext_getElem
 ·simp
 ·intro i h1 h2
  simp [h2]
theorem sorted_up {n:Nat} {Q:Value->Shared->Prop} (hl:s.heap.get? a=some (lObj vs n)) (h2:2<=vs.length) (h64:vs.length<64) (hk : ∀ v∈vs,∃ b us m,v = .ref b/\s.heap.get? b=some (lObj us m))
  (hc : ∀ i s' (C:Bool->Shared->Prop),i+1<vs.length->Ext s s'->(∀ s'',Ext s' s''->C false s'')->kas_ask prog w A.in1.in1 oneType' vs (i+1) i C s')
  (h : ∀ D m s',Ext s s'->s.heap.get? D=none->s'.heap.get? D=some (lObj vs m)->Q (.ref D) s'):wpAny (model prog w) A (call (.builtin "sorted") [.ref a]) Q E s:=by
 refine Calls.call_function_entry kind_sorted plain_sorted entry_sorted (args_sorted1 _) ?_
 unfold Builtin.«sorted»
 refine wpAny_bind (m:=checkCount "sorted" 1 1 _) (wpAny_pure ?_)
 refine wpAny_bind (collect_list (isList_of hl) ?_ (by refine rwl sizeLine_eq ?_;show vs.toArray.size<=_;refine rwl List.size_toArray ?_;exact Nat.le_trans (Nat.le_of_lt h64) (Nat.le_add_left 64 16777152)))
 refine wpAny_bind (wpAny_newList ?_ (by show vs.length<=_;refine rwl sizeLine_eq ?_;exact Nat.le_trans (Nat.le_of_lt h64) (Nat.le_add_left 64 16777152)))
 have hsz:((s.heap.push (seqObj "list" #[] 0)).update s.heap.objs.size (Obj.mapSeq (·++ vs.toArray))).objs.size=s.heap.objs.size+1:=by
  exact rwl (Heap.size_update _ _ _) (rwl (size_push' _ _) rfl)
 have hoL:(((s.heap.push (seqObj "list" #[] 0)).update s.heap.objs.size (Obj.mapSeq (·++ vs.toArray))).push (seqObj "list" vs.toArray 0)).get? (s.heap.objs.size+1)=some (seqObj "list" vs.toArray 0):=by
  refine lwr hsz ?_;exact Heap.get?_push_size _ rfl
 have keep : ∀ b o,s.heap.get? b=some o->(((s.heap.push (seqObj "list" #[] 0)).update s.heap.objs.size (Obj.mapSeq (·++ vs.toArray))).push (seqObj "list" vs.toArray 0)).get? b=some o:=fun b o q=>by
  have hlt:b<s.heap.objs.size:=Heap.lt_size q
  rw [Heap.get?_push_ne _ _ _ (by refine rwl hsz ?_;exact Nat.ne_of_lt (Nat.lt_succ_of_lt hlt)),Heap.get?_update_ne _ _ _ _ (Nat.ne_of_lt hlt),Heap.get?_push_ne _ _ _ (Nat.ne_of_lt hlt)]
  exact q
 show wpAny _ _ _ _ _ { s with heap:=((s.heap.push (seqObj "list" #[] 0)).update s.heap.objs.size (Obj.mapSeq (·++ vs.toArray))).push (seqObj "list" vs.toArray 0) }
 refine rwl hsz ?_
 have hnew:s.heap.get? (s.heap.objs.size+1)=none:=get?_lt (Nat.le_succ _)
 refine wpAny_bind (wpAny_holding (wpAny_call_entry slot_list_sort ⟨_,hoL,rfl⟩ entry_list_sort ?body (args_list_sort _)))
 case body=>
  refine sort_keeps (s:={ s with heap:=((s.heap.push (seqObj "list" #[] 0)).update s.heap.objs.size (Obj.mapSeq (·++ vs.toArray))).push (seqObj "list" vs.toArray 0) }) hoL h2 h64 fun h' hkp=> ?_
  have x₁:Ext s { s with heap:=h' }:=Ext.heap s.toks fun b o q=>hkp b o (Nat.ne_of_lt (Nat.lt_succ_of_lt (Heap.lt_size q))) (keep b o q)
  refine kas_kind (T:= .type "list") h2 (fun v hv=> ?_) rfl rfl ?_
  ·refine ea32 (hk v hv) fun b us m Z3 e=> ?_;subst Z3
   exact (Looks.ld (x₁.keep _ _ e)).andThen .now
  ·refine sort_up (Inv:=fun s'=>Ext { s with heap:=h' } s') (by exact Nat.one_le_of_lt h2) (fun i s' C hi hx hC=>hc i s' C hi (x₁.trans hx) fun s'' y=>hC s'' (hx.trans y)) (Ext.refl _) fun s' hx=>⟨hx.keep,fun h'' c hkk hg=> ?_⟩
   rw [range_all] at hg
   refine ⟨_,rfl,wpAny_pure ⟨_,rfl,h _ c _ ?_ hnew hg⟩⟩
   have c':Chg (·= s.heap.objs.size+1) (fun Z=>False) s' { s' with heap:=h'' }:=⟨fun b o hb e=>hkk b o hb e,rfl,fun Z Z Z e=>e,fun h=>h⟩
   exact ((x₁.trans hx).chg.trans c').ext (fun b hb=>by subst hb;exact hnew) fun Z q=>q.elim
end
noncomputable def ltL (f:D->D->Option Bool):List D->List D->Option Bool
 | [],ys=>some (decide (0<ys.length))
 | _::_,[]=>some false
 | x::xs,y::ys=>if x.depth<=64 then (if PyData.eqv x y then ltL f xs ys else f x y) else none
noncomputable def ltD:Nat->D->D->Option Bool
 | 0,_,_=>none
 | _+1,.int a,.int b=>some (decide (a<b))
 | n+1,.list xs,.list ys=>ltL (ltD n) xs ys
 | _,_,_=>none
section
variable {prog:Program} {w:World}
theorem lt_loop {W:List Addr} {f:D->D->Option Bool} {b:Bool} {l m:Addr} {vs us:List Value} {n1 n2:Nat} {xs ys:List D} {A:Around} (hu:A.units+100<cLine)
  (hf : ∀ (x y:D) (v u:Value) (b:Bool) (s:Shared) (Q:Value->Shared->Prop) (E:Value->Shared->Prop),f x y=some b->Rep W s.heap v x->Rep W s.heap u y->Q (.bool b) s->wpAny (model prog w) A.in1 (richCompare .Lt v u) Q E s) :
  ∀ (k i:Nat) (s:Shared) (R:Result->Shared->Prop),xs.length-i=k->i<=xs.length->i<=ys.length->s.heap.get? l=some (lObj vs n1)->s.heap.get? m=some (lObj us n2)->RepL W s.heap vs xs->RepL W s.heap us ys->ltL f (xs.drop i) (ys.drop i)=some b->R (.ok (.ret (.bool b))) s ->
   codeAny (model prog w) A (.builtin "list.__eq__.loop" ⟨[.ref l,.ref m,rawInt (i:Int),rawInt 0],[]⟩) R s:=by
 have step : ∀ (i:Nat) (s:Shared) (R:Result->Shared->Prop),s.heap.get? l=some (lObj vs n1)->s.heap.get? m=some (lObj us n2) ->
   (match vs[i]?,us[i]? with
    | some v,some u=>wpAny (model prog w) A.in1 (eqBool v u) (fun t s'=>if t=true then codeAny (model prog w) A (.builtin "list.__eq__.loop" ⟨[.ref l,.ref m,rawInt ((i+1:Nat):Int),rawInt 0],[]⟩) R s' else
      s'.heap.get? l=some (lObj vs n1)/\s'.heap.get? m=some (lObj us n2)/\wpAny (model prog w) A.in1 (richCompare .Lt v u) (fun r s''=>R (.ok (.ret r)) s'') (fun e s''=>R (.error e) s'') s') (fun e s''=>R (.error e) s'') s
    | _,_=>R (.ok (.ret (.bool (decide (vs.length<us.length))))) s) ->
   codeAny (model prog w) A (.builtin "list.__eq__.loop" ⟨[.ref l,.ref m,rawInt (i:Int),rawInt 0],[]⟩) R s:=fun i s R hl hm h=>by
  refine codeAny_builtin MeetsSeq3.entry_eq_loop ?_
  refine rwl (Around.under_plainId MeetsSeq3.plain_eq_loop _) ?_
  obtain ⟨hp,g,d,tk,os⟩:=s
  wp_walk using AutoSeq1.wpAny_loadPart' hl,AutoSeq1.wpAny_loadPart' hm
  have e1:vs.toArray[((i:Int)).toNat]? = vs[i]? := by simp
  have e2:us.toArray[((i:Int)).toNat]? = us[i]? := by simp
  refine rwl e1 (rwl e2 ?_)
  have hc:((i:Int)+1)=((i+1:Nat):Int):=by push_cast;rfl
  have other:R (.ok (.ret (.bool (decide (vs.length<us.length))))) { heap:=hp,gens:=g,drawn:=d,toks:=tk,os:=os }->wpAny (model prog w) A.in1 (do
    let a <- Builtin.List.listItems (.ref l)
    let b <- Builtin.List.listItems (.ref m)
    ret (.bool (decide (a.size<b.size)))) (fun fin s'=>match fin with | .done f=>R (.ok f) s' | .again c'=>c'.quiet=true/\codeAny (model prog w) A c' R s') (fun e s'=>R (.error e) s') { heap:=hp,gens:=g,drawn:=d,toks:=tk,os:=os }:=fun h=>by
   refine wpAny_bind (listItems_at hl rfl (wpAny_bind (listItems_at hm rfl (wpAny_pure ?_))))
   exact h
  rcases hv:vs[i]? with _|v
  ·rw [hv] at h;exact other h
  ·rcases hu':us[i]? with _|u
   ·rw [hv,hu'] at h;exact other h
   ·rw [hv,hu'] at h
    refine wpAny_bind (wpAny_mono h (fun t s' ht=> ?_) fun Z Z q=>q)
    rcases t with _|_
    ·refine wpAny_bind (listItems_at ht.1 rfl (wpAny_bind (listItems_at ht.2.1 rfl ?_)))
     refine rwl e1 (rwl e2 (rwl hv (rwl hu' ?_)))
     exact wpAny_bind (wpAny_mono ht.2.2 (fun r s'' hr=>wpAny_pure hr) fun Z Z q=>q)
    ·refine rwl hc ?_
     exact wpAny_pure ⟨plainId_quiet MeetsSeq3.plain_eq_loop _,ht⟩
 intro k
 induction k with
 | zero=>
  intro i s R hk hx hy hl hm rx ry e hR
  have hi:i=xs.length:=by exact Nat.le_antisymm ((fun {i₁ i₂} ↦ String.Pos.Raw.mk_le_mk.mp) hx) (Nat.le_of_sub_eq_zero hk)
  subst hi
  have l1:=rx.length
  have l2:=ry.length
  refine step _ s R hl hm ?_
  rw [List.drop_length] at e
  simp only [ltL,Option.some.injEq,List.length_drop] at e
  have hv:vs[xs.length]? = none:=List.getElem?_eq_none (by exact Nat.le_of_eq l1)
  refine rwl hv ?_
  have:decide (vs.length<us.length)=b:=by
   refine lwr e ?_
   apply decide_eq_decide.mpr
   exact H515 l2 l1
  show R (.ok (.ret (.bool (decide (vs.length<us.length))))) s
  refine rwl this ?_
  exact hR
 | succ k ih=>
  intro i s R hk hx hy hl hm rx ry e hR
  have l1:=rx.length
  have l2:=ry.length
  have hlt:i<xs.length:=by exact Nat.lt_of_sub_eq_succ hk
  refine step _ s R hl hm ?_
  rw [List.drop_eq_getElem_cons hlt] at e
  refine ea12 (rx.get (List.getElem?_eq_getElem hlt)) fun v hv rv=> ?_
  refine rwl hv ?_
  by_cases hlt2:i<ys.length
  ·rw [List.drop_eq_getElem_cons hlt2] at e
   refine ea12 (ry.get (List.getElem?_eq_getElem hlt2)) fun u hu' ru=> ?_
   refine rwl hu' ?_
   simp only [ltL] at e
   split at e
   ·rename_i hdp
    refine ea11 rv.reads fun as ra=> ?_
    refine ea11 ru.reads fun bs rb=> ?_
    have hmin:=Nat.min_le_left xs[i].depth ys[i].depth
    refine eqAt_reads _ _ A.in1 s v u as bs ra rb rv.canLay ru.canLay (by have:A.in1.units=A.units+1:=rfl;exact H506 hu this hmin hdp) prog w _ _ ?_
    rcases hq:PyData.eqv xs[i] ys[i] with _|_
    ·rw [hq] at e
     exact ⟨hl,hm,hf _ _ _ _ b s _ _ e rv ru hR⟩
    ·rw [hq] at e
     exact ih (i+1) s R (by exact H404 hk) hlt hlt2 hl hm rx ry e hR
   ·exact nnE e
  ·have hn:us[i]? = none:=List.getElem?_eq_none (by exact Eq.symm l2▸Nat.le_of_not_lt hlt2)
   refine rwl hn ?_
   rw [show ys.drop i=[] from List.drop_eq_nil_of_le (by exact Nat.le_of_not_lt hlt2)] at e
   simp only [ltL,Option.some.injEq] at e
   have:decide (vs.length<us.length)=b:=by
    refine lwr e ?_
    simp;exact H507 hlt2 hlt l2 l1
   show R (.ok (.ret (.bool (decide (vs.length<us.length))))) s
   refine rwl this ?_
   exact hR
theorem lt_call {W:List Addr} {f:D->D->Option Bool} {b:Bool} {l m:Addr} {vs us:List Value} {n1 n2:Nat} {xs ys:List D} {A:Around} {s:Shared} {Q:Value->Shared->Prop} {E:Value->Shared->Prop} (hu:A.units+100<cLine)
  (hf : ∀ (x y:D) (v u:Value) (b:Bool) (s:Shared) (Q:Value->Shared->Prop) (E:Value->Shared->Prop),f x y=some b->Rep W s.heap v x->Rep W s.heap u y->Q (.bool b) s->wpAny (model prog w) A.in1 (richCompare .Lt v u) Q E s)
  (ea:s.heap.get? l=some (lObj vs n1)) (eb:s.heap.get? m=some (lObj us n2)) (ra:RepL W s.heap vs xs) (rb:RepL W s.heap us ys) (e:ltL f xs ys=some b) (h:Q (.bool b) s) :
  wpAny (model prog w) A (call (.builtin "list.__lt__") [.ref l,.ref m]) (fun v s'=>v ≠ .notImplemented/\Q v s') E s:=by
 refine wpAny_call (codeAny_call_builtin PySem.F.slot_list_lt.plain PySem.F.entry_list_lt (PySem.F.slot_list_lt.check _ _ _ _ _ _ _ _ ⟨_,ea,rfl⟩ (PySem.F.args_list_lt_2 _ _) ?_))
 obtain ⟨hp,g,d,tk,os⟩:=s
 have f3:=sub_list_list
 wp_walk using AutoSeq1.wpAny_loadPart' ea,AutoSeq1.wpAny_loadPart' eb
 exact ⟨plainId_quiet MeetsSeq3.plain_eq_loop _,lt_loop (W:=W) (f:=f) hu hf _ 0 _ _ rfl (Nat.zero_le _) (Nat.zero_le _) ea eb ra rb e ⟨(by intro q;exact nomatch q),h⟩⟩
theorem lt_rep {W:List Addr} : ∀ (n:Nat) (x y:D) (v u:Value) (b:Bool) (A:Around) (s:Shared) (Q:Value->Shared->Prop) (E:Value->Shared->Prop),A.units+100+10*n<cLine->ltD n x y=some b->Rep W s.heap v x->Rep W s.heap u y->Q (.bool b) s->wpAny (model prog w) A (richCompare .Lt v u) Q E s
 | 0,_,_,_,_,_,_,_,_,_,_,e,_,_,_=>by simp [ltD] at e
 | n+1,x,y,v,u,b,A,s,Q,E,hu,e,rv,ru,h=>by
  rcases x with _|_|i|_|xs|_|_
  case int=>
   rcases y with _|_|j|_|_|_|_
   case int=>
    simp only [ltD,Option.some.injEq] at e
    subst e
    cases rv with
    | int _ t=>cases ru with
     | int _ t'=>exact PySem.P.lt_int h
   all_goals simp [ltD] at e
  case list=>
   rcases y with _|_|_|_|ys|_|_
   case list=>
    cases rv with
    | list ha ea ra=>cases ru with
     | list hb eb rb=>
      refine wpAny_richCompare_same_room (op:= .Lt) ⟨_,ea,rfl⟩ ⟨_,eb,rfl⟩ PySem.F.slot_list_lt ?_ (by exact Nat.lt_of_add_right_lt (Nat.lt_of_add_right_lt hu))
      exact lt_call (W:=W) (f:=ltD n) (by exact Nat.lt_of_add_right_lt hu) (fun x y v u b s Q E e rv ru h=>lt_rep n x y v u b A.in1 s Q E (by have:A.in1.units=A.units+1:=rfl;exact H508 hu this) e rv ru h) ea eb ra rb e h
   all_goals simp [ltD] at e
  all_goals simp [ltD] at e
theorem sort_one {A:Around} {s:Shared} {E:Value->Shared->Prop} {a:Addr} {v:Value} {n:Nat} {P:PySem.Fin->Shared->Prop} (ho:s.heap.get? a=some (seqObj "list" [v].toArray n))
  (h : ∀ h'' c,(∀ b o,b≠a->s.heap.get? b=some o->h''.get? b=some o)->h''.get? a=some (seqObj "list" [v].toArray c)->P (.done (.ret .none)) { s with heap:=h'' }) :
  wpAny (model prog w) A (Builtin.«list.sort» ⟨[.ref a],[]⟩) P E s:=by
 have s1:=Heap.SameBut.update s.heap a (Obj.mapSeq fun Z=>(#[]:Array Value))
 obtain ⟨e1,ho1⟩ : ∃ e1,(s.heap.update a (Obj.mapSeq fun Z=>(#[]:Array Value))).get? a=some (seqObj "list" #[] e1):=⟨_,get?_update_seq ho fun Z=> #[]⟩
 refine rwl (list_sort_plain _) ?_
 refine wpAny_bind (listItems_at ho rfl ?_)
 refine wpAny_bind (listUpdate_at ho rfl ?_ (by show 1<=_;refine rwl sizeLine_eq ?_;exact Nat.le_of_ble_eq_true rfl) (Nat.zero_le _))
 refine wpAny_bind (seqEpoch_at ho1 rfl ?_)
 refine wpAny_bind (wpAny_newTuple ?_ (by show 1<=_;refine rwl sizeLine_eq ?_;exact Nat.le_of_ble_eq_true rfl))
 refine wpAny_bind (wpAny_newList ?_ (Nat.zero_le _))
 refine wpAny_holding ?_
 show wpAny (model prog w) A _ P E { s with heap:=((s.heap.update a (Obj.mapSeq fun Z=>(#[]:Array Value))).push (seqObj "tuple" [v].toArray 0)).push (seqObj "list" #[] 0) }
 have hn2:[v].toArray.size<2:=by show 1<2;exact Nat.one_lt_two
 refine rwl (if_pos hn2) (rwl (if_pos hn2) ?_)
 refine wpAny_bind (wpAny_pure ?_)
 refine wpAny_bind (wpAny_pure ?_)
 have na:({ s with heap:=((s.heap.update a (Obj.mapSeq fun Z=>(#[]:Array Value))).push (seqObj "tuple" [v].toArray 0)).push (seqObj "list" #[] 0) }:Shared).heap.get? a=some (seqObj "list" #[] e1):=Heap.get?_push_of_some _ (Heap.get?_push_of_some _ ho1)
 generalize hH:(({ s with heap:=((s.heap.update a (Obj.mapSeq fun Z=>(#[]:Array Value))).push (seqObj "tuple" [v].toArray 0)).push (seqObj "list" #[] 0) }:Shared))=s' at na
 have keep : ∀ b o,b≠a->s.heap.get? b=some o->s'.heap.get? b=some o:=fun b o hb e=>by
  refine lwr hH ?_
  exact Heap.get?_push_of_some _ (Heap.get?_push_of_some _ ((s1.2 b hb).trans e))
 have hfin : ∀ h'',{ s' with heap:=h'' }={ s with heap:=h'' }:=fun h''=>by exact lwr hH rfl
 have s2:=Heap.SameBut.update s'.heap a (Obj.mapSeq fun Z=>[v].toArray)
 obtain ⟨c2,hc2⟩ : ∃ c2,(s'.heap.update a (Obj.mapSeq fun Z=>[v].toArray)).get? a=some (seqObj "list" [v].toArray c2):=⟨_,get?_update_seq na fun Z=>[v].toArray⟩
 have hout:Array.map (fun x=>x.snd) (arrOf ((),SortSt.mk' general' (#[v].zip #[v]) #[] 7 none).snd)=[v].toArray:=by
  show Array.map (fun x=>x.snd) (#[v].zip #[v]) = #[v]
  simp
 refine wpAny_bind (seqEpoch_at na rfl ?_)
 refine rwl hout ?_
 refine wpAny_bind (listUpdate_at na rfl ?_ (Nat.zero_le _) (by show 1<=_;refine rwl sizeLine_eq ?_;exact Nat.le_add_left 1 16777216))
 show wpAny _ _ (if (e1 != e1)=true then _ else _) _ _ _
 simp only [bne_self_eq_false,Bool.false_eq_true,if_false]
 refine wpAny_pure ?_
 refine rwl (hfin _) ?_
 exact h _ c2 (fun b o hb e=>(s2.2 b hb).trans (keep b o hb e)) hc2
theorem sorted_one {A:Around} {s:Shared} {E:Value->Shared->Prop} {a:Addr} {v:Value} {n:Nat} {Q:Value->Shared->Prop} (hl:s.heap.get? a=some (lObj [v] n))
  (h : ∀ D m s',Ext s s'->s.heap.get? D=none->s'.heap.get? D=some (lObj [v] m)->Q (.ref D) s'):wpAny (model prog w) A (call (.builtin "sorted") [.ref a]) Q E s:=by
 refine Calls.call_function_entry kind_sorted plain_sorted entry_sorted (args_sorted1 _) ?_
 unfold Builtin.«sorted»
 refine wpAny_bind (m:=checkCount "sorted" 1 1 _) (wpAny_pure ?_)
 refine wpAny_bind (collect_list (isList_of hl) ?_ (by show 1<=_;refine rwl sizeLine_eq ?_;exact Nat.le_of_ble_eq_true rfl))
 refine wpAny_bind (wpAny_newList ?_ (by show 1<=_;refine rwl sizeLine_eq ?_;exact Nat.le_of_ble_eq_true rfl))
 have hsz:((s.heap.push (seqObj "list" #[] 0)).update s.heap.objs.size (Obj.mapSeq (·++ [v].toArray))).objs.size=s.heap.objs.size+1:=by
  exact rwl (Heap.size_update _ _ _) (rwl (size_push' _ _) rfl)
 have hoL:(((s.heap.push (seqObj "list" #[] 0)).update s.heap.objs.size (Obj.mapSeq (·++ [v].toArray))).push (seqObj "list" [v].toArray 0)).get? (s.heap.objs.size+1)=some (seqObj "list" [v].toArray 0):=by
  refine lwr hsz ?_;exact Heap.get?_push_size _ rfl
 have keep : ∀ b o,s.heap.get? b=some o->(((s.heap.push (seqObj "list" #[] 0)).update s.heap.objs.size (Obj.mapSeq (·++ [v].toArray))).push (seqObj "list" [v].toArray 0)).get? b=some o:=fun b o q=>by
  have hlt:b<s.heap.objs.size:=Heap.lt_size q
  rw [Heap.get?_push_ne _ _ _ (by refine rwl hsz ?_;exact Nat.ne_of_lt (Nat.lt_succ_of_lt hlt)),Heap.get?_update_ne _ _ _ _ (Nat.ne_of_lt hlt),Heap.get?_push_ne _ _ _ (Nat.ne_of_lt hlt)]
  exact q
 show wpAny _ _ _ _ _ { s with heap:=((s.heap.push (seqObj "list" #[] 0)).update s.heap.objs.size (Obj.mapSeq (·++ [v].toArray))).push (seqObj "list" [v].toArray 0) }
 refine rwl hsz ?_
 have hnew:s.heap.get? (s.heap.objs.size+1)=none:=get?_lt (Nat.le_succ _)
 refine wpAny_bind (wpAny_holding (wpAny_call_entry slot_list_sort ⟨_,hoL,rfl⟩ entry_list_sort ?body (args_list_sort _)))
 case body=>
  refine sort_one (s:={ s with heap:=((s.heap.push (seqObj "list" #[] 0)).update s.heap.objs.size (Obj.mapSeq (·++ [v].toArray))).push (seqObj "list" [v].toArray 0) }) hoL fun h'' c hkk hg=> ?_
  exact ⟨_,rfl,wpAny_pure ⟨_,rfl,h _ c _ (Ext.heap s.toks fun b o q=>hkk b o (Nat.ne_of_lt (Nat.lt_succ_of_lt (Heap.lt_size q))) (keep b o q)) hnew hg⟩⟩
noncomputable def upL:List D->Bool
 | x::y::r=>(match ltD 6 y x with|some false=>true|_=>false)&&upL (y::r)
 | _=>true
noncomputable def isL:D->Bool
 | .list _=>true
 | _=>false
noncomputable def sortedB:D->Option D
 | .list xs=>if 1<=xs.length/\xs.length<64/\xs.all isL=true/\upL xs=true then some (.list xs) else none
 | _=>none
theorem upL_get : ∀ {xs:List D} {i:Nat} {x y:D},upL xs=true->xs[i]? = some x->xs[i+1]? = some y->ltD 6 y x=some false
 | [],_,_,_,_,h,_=>by exact nomatch h
 | [a],i,_,_,_,_,h=>by exact nomatch h
 | a::b::r,0,x,y,h,h1,h2=>by
  simp only [List.getElem?_cons_zero,List.getElem?_cons_succ,Option.some.injEq] at h1 h2
  subst h1 h2
  unfold upL at h
  simp only [Bool.and_eq_true] at h
  have:=h.1
  split at this
  ·assumption
  ·exact nomatch this
 | a::b::r,i+1,x,y,h,h1,h2=>by
  unfold upL at h
  simp only [Bool.and_eq_true] at h
  exact upL_get (i:=i) h.2 (by exact h1) (by exact h2)
set_option tactic.hygienic true in
theorem b_sorted {W:List Addr} {A:Around} {E:Value->Shared->Prop} {s:Shared} {v:Value} {d₁ d:D} {Q:Value->Shared->Prop} (rm:Room A 0) (hW:Shut W s.heap) (rv:Seq1 W s.heap v d₁) (e:sortedB d₁=some d) (h:Gives s W d Q):wpAny (model prog w) A (call (.builtin "sorted") [v]) Q E s:=by
 unfold sortedB at e
 split at e
 ·rename_i xs
  split at e
  ·rename_i hc
   simp only [Option.some.injEq] at e;subst e
   refine ea33 rv.list fun a vs n Z3 ea ra=> ?_;subst Z3
   have hl:=ra.length
   have fin : ∀ D m s',Ext s s'->s.heap.get? D=none->s'.heap.get? D=some (lObj vs m)->Q (.ref D) s':=fun D m s' x hD hg=>
    h _ _ x (.list (fun hm=>by refine ea21 (hW D hm) fun us k e=> ?_;rw [hD] at e;exact nnE e) hg (ra.ext x))
   by_cases h1':vs.length=1
   ·refine ea11 (List.length_eq_one_iff.mp h1') fun v Z1=> ?_;subst Z1
    exact sorted_one ea fin
   refine sorted_up ea (by exact H509 h1' hl hc.1) (by exact H510 hl hc.2.1) (fun u hu=> ?_) (fun i s' C hi x hC=> ?_) fin
   ·refine ea11 (List.mem_iff_getElem?.mp hu) fun j hj=> ?_
    refine ea12 (ra.getV hj) fun d hd rd=> ?_
    have:=List.all_eq_true.mp hc.2.2.1 d (List.mem_of_getElem? hd)
    cases rd with
    | list _ e' _=>exact ⟨_,_,_,rfl,e'⟩
    | _=>simp [isL] at this
   ·unfold kas_ask
    have h1:i<vs.length:=by exact Nat.lt_of_succ_lt hi
    refine ea12 (ra.getV (List.getElem?_eq_getElem h1)) fun x1 hx1 r1=> ?_
    refine ea12 (ra.getV (List.getElem?_eq_getElem hi)) fun x2 hx2 r2=> ?_
    have lt:=upL_get hc.2.2.2 hx1 hx2
    have g1:vs.getD i Value.none=vs[i]:=by simp [h1]
    have g2:vs.getD (i+1) Value.none=vs[i+1]:=by simp [hi]
    refine rwl g1 (rwl g2 ?_)
    have i1:=List.all_eq_true.mp hc.2.2.1 x1 (List.mem_of_getElem? hx1)
    have i2:=List.all_eq_true.mp hc.2.2.1 x2 (List.mem_of_getElem? hx2)
    generalize vs[i]=w1 at r1
    generalize vs[i+1]=w2 at r2
    have u2:A.in1.in1.units=A.units+2:=rfl
    have hun:=rm.un
    refine rwl (keyLt'_oneType _ _) (rwl (oneLt'_eq _ _ _) ?_)
    refine wpAny_bind (wpAny_cRoomFor (by exact H517 hun u2 rfl) ?_)
    have r1':=r1.ext x
    have r2':=r2.ext x
    cases r1' with
    | list _ ea1 ra1=>cases r2' with
     | list _ ea2 ra2=>
      refine wpAny_bind (wpAny_callSpecialIfBound?_slot (T:= "list") ⟨_,ea2,rfl⟩ PySem.F.slot_list_lt ?_)
      refine wpAny_mono (lt_call (W:=W) (f:=ltD 5) (Q:=fun v s''=>v = .bool false/\s''=s') (by exact H512 (H511 hun u2 rfl)) (fun x y v u b s Q E e rv ru h=>lt_rep 5 x y v u b _ s Q E (by have:A.in1.in1.in1.units=A.units+3:=rfl;exact H511 hun this rfl) e rv ru h) ea2 ea1 ra2 ra1 lt ⟨rfl,rfl⟩) (fun v s'' hq=> ?_) fun Z Z q=>q
      refine ea03 hq fun Z Z1 Z2=> ?_;subst Z1;subst Z2
      exact wpAny_truthy_bool (hC _ (Ext.refl _))
     | _=>simp [isL] at i2
    | _=>simp [isL] at i1
  ·exact nnE e
 ·exact nnE e
end
noncomputable abbrev nm (x:String):Str:=Str.ofString x
noncomputable abbrev vr (x:String):ME:= .var (nm x)
noncomputable abbrev ow (x:String):ME:= .own (nm x)
noncomputable abbrev ci (i:Int):ME:= .c (.int i)
noncomputable abbrev cs (x:String):ME:= .c (.str (nm x))
noncomputable abbrev nn:ME:= .c .none
noncomputable def mes:List ME->MEs
 | []=> .nil
 | m::r=> .cons m (mes r)
noncomputable def mss:List MS->MSs
 | []=> .nil
 | m::r=> .cons m (mss r)
noncomputable abbrev li (l:List ME):ME:= .list (mes l)
noncomputable abbrev tu (l:List ME):ME:= .tup (mes l)
noncomputable abbrev add (a b:ME):ME:= .bin .Add a b
noncomputable abbrev sub (a b:ME):ME:= .bin .Sub a b
noncomputable abbrev mul (a b:ME):ME:= .bin .Mult a b
noncomputable abbrev md (a b:ME):ME:= .bin .Mod a b
noncomputable abbrev dv (a b:ME):ME:= .bin .FloorDiv a b
noncomputable abbrev eq' (a b:ME):ME:= .cmp .Eq a b
noncomputable abbrev ne' (a b:ME):ME:= .cmp .NotEq a b
noncomputable abbrev len' (a:ME):ME:= .blt (nm "len") a
noncomputable abbrev str' (a:ME):ME:= .blt (nm "str") a
noncomputable abbrev low (a:ME):ME:= .met (nm "lower") a
noncomputable abbrev upp (a:ME):ME:= .met (nm "upper") a
noncomputable abbrev cl (f:String) (l:List ME):ME:= .call (nm f) (mes l)
noncomputable abbrev cmpr (elt:ME) (x:String) (it:ME) (cs:List ME):ME:= .comp elt (.n (nm x)) false it (mes cs)
noncomputable abbrev cmpn (elt:ME) (x:String) (it:ME) (cs:List ME):ME:= .comp elt (.n (nm x)) true it (mes cs)
noncomputable def pRow:MSs:=mss [
 .asgO (nm "row") (li []),
 .fr (.n (nm "k")) .rng (ci 4) (mss [
  .asg (nm "x") (.idx (vr "sums") (vr "k")),
  .asg (nm "letter") (.idx (li [cs "a", cs "b", .idx (cs "abc") (md (vr "x") (ci 3)),.idx (cs "abcd") (md (vr "x") (ci 4))]) (vr "k")),
  .asg (nm "pair") (.ite (md (dv (vr "x") (ci 12)) (ci 2)) (li [upp (vr "letter"),vr "letter"]) (li [vr "letter", upp (vr "letter")])),
  .ins (nm "row") (md (dv (vr "x") (ci 24)) (add (len' (ow "row")) (ci 1))) (.idx (vr "pair") (ci 0)),
  .ins (nm "row") (md (dv (vr "x") (ci 200)) (add (len' (ow "row")) (ci 1))) (.idx (vr "pair") (ci 1))]),
 .retO (nm "row")]
noncomputable def pBack:MSs:=mss [.ret (cmpr (.ite (ne' (vr "x") (low (vr "x"))) (low (vr "x")) (upp (vr "x"))) "x" (cmpn (.idx (vr "word") (sub (ci (-1)) (vr "k"))) "k" (len' (vr "word")) []) [])]
noncomputable def pHide:ME:=li [tu [cs "", cs ""],tu [cs "\\)", cs "\\)"],tu [cs "\"~(\"", cs ""],tu [cs "\\~", cs "\\~"],tu [cs "\"\\\")\"", cs ""],tu [cs "\\\"", cs "\\\""],tu [cs "\\(", cs "\\("],tu [cs "\\\\", cs "\\\\"]]
noncomputable def pTexts:MSs:=mss [
 .asg (nm "hide") pHide,
 .asg (nm "mark") (dv (vr "shape") (add (vr "first") (mul (ci 2) (vr "last")))),
 .ite (eq' (sub (vr "last") (vr "first")) (ci 1)) (mss [
  .asg (nm "letter") (low (.idx (vr "row") (vr "first"))),
  .asg (nm "tilde") (.ite (ne' (ne' (vr "letter") (.idx (vr "row") (vr "first"))) (vr "back")) (cs "~") (cs "")),
  .ret (cmpr (.ite (md (vr "first") (ci 2)) (add (add (vr "tilde") (vr "letter")) (vr "x")) (add (add (vr "x") (vr "tilde")) (vr "letter"))) "x" (.idx (vr "hide") (md (vr "mark") (ci 8))) [])]) .nil,
 .asg (nm "flip") (eq' (md (dv (vr "mark") (ci 8)) (ci 2)) (ci 1)),
 .asg (nm "cut") (add (add (vr "first") (ci 1)) (md (vr "mark") (sub (sub (vr "last") (vr "first")) (ci 1)))),
 .asg (nm "one") (cl "_law_texts" [vr "row", vr "first", vr "cut", ne' (vr "back") (vr "flip"),vr "shape"]),
 .asg (nm "two") (cl "_law_texts" [vr "row", vr "cut", vr "last", ne' (vr "back") (vr "flip"),vr "shape"]),
 .ite (ne' (vr "back") (vr "flip")) (mss [.tup [(nm "one", false,vr "two"),(nm "two", false,vr "one")]]) .nil,
 .ret (cmpr (add (add (add (add (.ite (vr "flip") (cs "~(") (cs "(")) (.idx (vr "one") (vr "n"))) (cs "*")) (.idx (vr "two") (vr "n"))) (cs ")")) "n" (tu [ci 0,ci 1]) [])]
noncomputable def pRead:MSs:=mss [
 .tup [(nm "pile", true,li []),(nm "end", false,ci 0),(nm "count", false,ci 0)],
 .fr (.t [nm "place", nm "unit"]) (.gen (nm "_iter_escaped_chars")) (vr "left") (mss [
  .aug (nm "end") .Add (len' (vr "unit")),
  .asg (nm "symbol") (.dg (nm "EXACT_TOKEN_TYPES") (vr "unit") (.ite (eq' (vr "unit") (cs "\\")) (ci 0) (add (ci 256) (vr "count")))),
  .asg (nm "symbol") (.ite (eq' (len' (vr "unit")) (ci 2)) (sub (ci 255) (mul (ci 256) (md (vr "place") (ci 2)))) (vr "symbol")),
  .asg (nm "kinds") (li [str' (cl "ISTERMINAL" [vr "symbol"]),str' (cl "ISNONTERMINAL" [vr "symbol"])]),
  .ite (.bop .Or (mes [ne' (vr "place") (sub (vr "end") (ci 1)),ne' (vr "kinds") (li [str' (.cmp .NotIn (vr "unit") (cs "abcd")),str' (.cmp .In (vr "unit") (cs "abcd"))])])) (mss [.ret nn]) .nil,
  .ite (.cmp .In (vr "symbol") (tu [ci 7,ci 31])) (mss [.app (nm "pile") (vr "symbol")]) (mss [
   .ite (.bop .Or (mes [eq' (vr "symbol") (ci 8),.cmp .Gt (vr "symbol") (ci 255)])) (mss [
    .asg (nm "word") (.ite (.cmp .Gt (vr "symbol") (ci 255)) (li [vr "unit"]) (add (.idx (ow "pile") (ci (-2))) (.idx (ow "pile") (ci (-1))))),
    .asgI (nm "pile") (.cmp .Gt (vr "symbol") (ci 255)) (.sl (ow "pile") nn (ci (-3)) nn),
    .ite (eq' (.sl (ow "pile") (ci (-1)) nn nn) (li [ci 31])) (mss [.tup [(nm "pile", true,.sl (ow "pile") nn (ci (-1)) nn),(nm "word", false,cl "_law_back" [vr "word"])]]) .nil,
    .app (nm "pile") (vr "word"),
    .asg (nm "count") (.ite (.cmp .Gt (vr "symbol") (ci 255)) (add (vr "count") (ci 1)) (vr "count"))])
   (mss [.ite (.cmp .NotIn (vr "symbol") (tu [ci (-1),ci 0,ci 16,ci 255])) (mss [.ret nn]) .nil])])]),
 .retI (eq' (vr "end") (len' (vr "left"))) (nm "pile") nn]
noncomputable def pLonger:MSs:=mss [
 .asg (nm "used") (.comp2 (vr "x") (.n (nm "pair")) (vr "links") (.n (nm "x")) (vr "pair")),
 .asg (nm "first") (.idx (cmpn (vr "p") "p" (ci 8) [.cmp .NotIn (vr "p") (vr "used")]) (ci 0)),
 .ret (cmpr (add (vr "links") (li [li [vr "first", vr "q"]])) "q" (.idx (vr "mates") (vr "first")) [.cmp .NotIn (vr "q") (vr "used")])]
noncomputable def pCorners:MSs:=mss [
 .asgO (nm "follow") (mul (li [ci 0]) (ci 8)),
 .fr (.t [nm "p", nm "q"]) .seq (vr "links") (mss [.its (nm "follow") (vr "p") (vr "q") (md (add (vr "q") (ci 1)) (ci 8)) (md (add (vr "p") (ci 1)) (ci 8))]),
 .tup [(nm "left", false,li [ci 0,ci 1,ci 2,ci 3,ci 4,ci 5,ci 6,ci 7]),(nm "count", false,ci 0)],
 .wh 20 (ne' (vr "left") (li [])) (mss [
  .tup [(nm "spot", false,.idx (vr "left") (ci 0)),(nm "count", false,add (vr "count") (ci 1))],
  .wh 20 (.cmp .In (vr "spot") (vr "left")) (mss [
   .asg (nm "left") (cmpr (vr "x") "x" (vr "left") [ne' (vr "x") (vr "spot")]),
   .asg (nm "spot") (.idx (ow "follow") (vr "spot"))])]),
 .ret (vr "count")]
noncomputable def pStruck:MSs:=mss [
 .asg (nm "ring") (li []),
 .fr (.n (nm "x")) .seq (vr "row") (mss [.asg (nm "ring") (.ite (eq' (cl "_law_back" [.sl (vr "ring") (ci (-1)) nn nn]) (li [vr "x"])) (.sl (vr "ring") nn (ci (-1)) nn) (add (vr "ring") (li [vr "x"])))]),
 .wh 20 (.bop .And (mes [.cmp .Gt (len' (vr "ring")) (ci 1),eq' (cl "_law_back" [.sl (vr "ring") (ci (-1)) nn nn]) (.sl (vr "ring") nn (ci 1) nn)])) (mss [.asg (nm "ring") (.sl (vr "ring") (ci 1) (ci (-1)) nn)]),
 .ret (vr "ring")]
noncomputable def pComm:MSs:=mss [
 .asg (nm "half") (dv (len' (vr "ring")) (ci 2)),
 .fr (.n (nm "turn")) .rng (len' (vr "ring")) (mss [
  .asg (nm "word") (add (.sl (vr "ring") (vr "turn") nn nn) (.sl (vr "ring") nn (vr "turn") nn)),
  .asg (nm "other") (cl "_law_back" [.sl (vr "word") nn (vr "half") nn]),
  .fr (.n (nm "i")) .rng (add (vr "half") (ci 1)) (mss [
   .fr (.n (nm "j")) .rng (add (vr "i") (ci 1)) (mss [
    .ite (eq' (.sl (vr "word") (vr "half") nn nn) (add (add (.sl (vr "other") (vr "i") nn nn) (.sl (vr "other") (vr "j") (vr "i") nn)) (.sl (vr "other") nn (vr "j") nn))) (mss [.ret (.c (.bool true))]) .nil])])]),
 .ret (.c (.bool false))]
noncomputable def pStrip:MSs:=mss [
 .ite (.cmp .NotIn (cs "\"") (vr "addr")) (mss [.ret (vr "addr")]) .nil,
 .asg (nm "start") (ci 0),
 .asg (nm "open_pos") nn,
 .asgO (nm "result") (li []),
 .fr (.t [nm "pos", nm "ch"]) (.gen (nm "_iter_escaped_chars")) (vr "addr") (mss [
  .ite (eq' (vr "ch") (cs "\"")) (mss [
   .ite (.cmp .Is (vr "open_pos") nn) (mss [.asg (nm "open_pos") (vr "pos")]) (mss [
    .ite (ne' (vr "start") (vr "open_pos")) (mss [.app (nm "result") (.sl (vr "addr") (vr "start") (vr "open_pos") nn)]) .nil,
    .asg (nm "start") (add (vr "pos") (ci 1)),
    .asg (nm "open_pos") nn])]) .nil]),
 .ite (.cmp .Lt (vr "start") (len' (vr "addr"))) (mss [.app (nm "result") (.sl (vr "addr") (vr "start") nn nn)]) .nil,
 .ret (.join (nm "") (ow "result"))]
noncomputable def pCheck:MSs:=mss [
 .asg (nm "addr") (cl "_strip_quoted_realnames" [vr "addr"]),
 .asg (nm "opens") (ci 0),
 .fr (.t [nm "pos", nm "ch"]) (.gen (nm "_iter_escaped_chars")) (vr "addr") (mss [
  .ite (eq' (vr "ch") (cs "(")) (mss [.aug (nm "opens") .Add (ci 1)]) (mss [
   .ite (eq' (vr "ch") (cs ")")) (mss [.aug (nm "opens") .Sub (ci 1),.ite (.cmp .Lt (vr "opens") (ci 0)) (mss [.ret (.c (.bool false))]) .nil]) .nil])]),
 .ret (eq' (vr "opens") (ci 0))]
noncomputable def pTerm:MSs:=mss [.ret (.cmp .Lt (vr "x") (.g (nm "NT_OFFSET")))]
noncomputable def pNonterm:MSs:=mss [.ret (.cmp .GtE (vr "x") (.g (nm "NT_OFFSET")))]
noncomputable def etok:List (String×Int):=[("!", 54),("%", 24),("&", 19),("(", 7),(")", 8),("*", 16),("+", 14),(",", 12),("-", 15),(".", 23),("/", 17),(":", 11),(";", 13),("<", 20),("=", 22),(">", 21),("@", 49),("[", 9),("]", 10),("^", 32),("{", 25),("|", 18),("}", 26),("~", 31)]
noncomputable def etokB:D->D->Option D
 | .str u,d=>match etok.find? (fun p=>Str.ofString p.1==u) with
  | some p=>some (.int p.2)
  | none=>if flat d&&(u==nm "a" || u==nm "b" || u==nm "c" || u==nm "d" || u==nm "A" || u==nm "\\" || (u.length==2&&u.cps[0]? == some 92)) then some d else none
 | _,_=>none
noncomputable abbrev Tab:=List (Str×Str)
noncomputable def tabItems (t:Tab):D:= .list (t.map fun p=> .tuple [.str p.1,.str p.2])
noncomputable def tabGet (t:Tab) (x:Str):D:= .list ((t.filter fun p=>Txt.lower p.1==Txt.lower x).map fun p=> .str p.2)
noncomputable def okChars:List Nat:=[97,98,99,100,65,66,67,68,48,49,50,51,52,53,54,55]
noncomputable def okStr (x:Str):Bool:=match x.cps.toList with|[c]=>okChars.contains c|_=>false
noncomputable def tabOk (t:Tab):Bool:=t.all fun p=>okStr p.1&&okStr p.2
noncomputable def BB (t:Option Tab):Fns:=fun f ds=>match ds with
 | []=>if f==nm "NT_OFFSET" then some (.int 256) else none
 | [d]=>if f==nm "len" then lenB d else if f==nm "sum" then sumB d else if f==nm "max" then maxB d else if f==nm "sorted" then sortedB d else if f==nm "str" then strB d else if f==nm "int" then intB d else none
 | [.str sep,d]=>if f==nm "join" then joinB sep d else none
 | [.none,p,q]=>if f==nm "EXACT_TOKEN_TYPES" then etokB p q else none
 | [.bool true,.bool true]=>if f==nm "items" then t.bind fun t=>if tabOk t then some (tabItems t) else none else none
 | [.bool true,.bool true,.str x]=>if f==nm "get_all" then t.bind fun t=>if okStr x&&tabOk t then some (tabGet t x) else none else none
 | _=>none
noncomputable def GG:Gens:=fun f d=>if f==nm "_iter_escaped_chars" then (match d with | .str x=>some (escItems x)|_=>none) else none
noncomputable def run (Φ:Fns) (params:List Str) (p:MSs) (ds:List D):Option D:=if ds.length=params.length then (exs Φ (BB none) GG p (locOf params ds)).bind (·.2) else none
noncomputable def progs:List (String×List String×MSs):=[
 ("_law_row", ["sums"],pRow),("_law_back", ["word"],pBack),("_law_texts", ["row", "first", "last", "back", "shape"],pTexts),("_law_read", ["left"],pRead),("_law_longer", ["links", "mates"],pLonger),
 ("_law_corners", ["links"],pCorners),("_law_struck", ["row"],pStruck),("_law_is_commutator", ["ring"],pComm),("_strip_quoted_realnames", ["addr"],pStrip),("_check_parenthesis", ["addr"],pCheck),("ISTERMINAL", ["x"],pTerm),("ISNONTERMINAL", ["x"],pNonterm)]
noncomputable def Phi:Nat->Fns
 | 0=>fun Z Z=>none
 | n+1=>fun f ds=>match progs.find? (fun p=>nm p.1==f) with
  | some p=>run (Phi n) (p.2.1.map nm) p.2.2 ds
  | none=>none
structure Top (prog:Program) (w:World) (T:Heap->Prop) (F:Str->Option Addr):Prop where
 top:TopS T F
 base : ∃ h₁:Heap,∀ h,T h ↔ ∀ b o,h₁.get? b=some o->h.get? b=some o
 fns : ∀ p∈progs,∃ a fd body,F (nm p.1)=some a/\FnIs T a fd (p.2.1.map nm) body/\fd.scope.isGenerator=false/\mtSs p.2.2 fd.scope.names body=true
 gen : ∃ a fd body,F (nm "_iter_escaped_chars")=some a/\FnIs T a fd [nAddr] body/\fd.scope.isGenerator=true/\GenOk fd.scope.names body/\fd.scope.names.all (fun x=> !(x.2 == .cell))=true
 dg : ∀ p q d,etokB p q=some d -> ∃ D:Addr,(∀ h,T h->Glob h (nm "EXACT_TOKEN_TYPES") (.ref D))/\(∀ (A:Around) (s:Shared) (pl:Sem Bool) (Q:Value×List Value->Shared->Prop) (E:Value->Shared->Prop),T s.heap->Q (.builtin "dict.get", [.ref D]) s->wpAny (model prog w) A (getMethod (.ref D) ("get" : Str) pl) Q E s) /\
  ∀ (A:Around) (s:Shared) (W:List Addr) (v u:Value) (Q:Value->Shared->Prop) (E:Value->Shared->Prop),Room A 0->T s.heap->Shut W s.heap->Rep W s.heap v p->Rep W s.heap u q->Gives s W d Q->wpAny (model prog w) A (call (.builtin "dict.get") [.ref D,v,u]) Q E s
 gc : ∀ h,T h -> ∃ t,Glob h (nm "NT_OFFSET") (.int 256 t)
section
variable {prog:Program} {w:World} {T:Heap->Prop} {F:Str->Option Addr}
theorem ifB {α:Type} {c:Bool} {a b x:α} {P:Prop} (h:(if c=true then a else b)=x) (k1:c=true->a=x->P) (k2:b=x->P):P:=if q:c=true then k1 q ((if_pos q).symm.trans h) else k2 ((if_neg q).symm.trans h)
theorem bl_ok {t:Option Tab} {f:Str} {d₁ d:D} (e:BB t f [d₁]=some d) : ∃ fv,bltV f=some fv/\(∀ a,fv ≠ .ref a) /\ ∀ (A:Around) (s:Shared) (W:List Addr) (v:Value) (Q:Value->Shared->Prop) (E:Value->Shared->Prop),Room A 0->Shut W s.heap->Seq1 W s.heap v d₁->Gives s W d Q ->
  wpAny (model prog w) A (call fv [v]) Q E s:=by
 replace e:(if f==nm "len" then lenB d₁ else if f==nm "sum" then sumB d₁ else if f==nm "max" then maxB d₁ else if f==nm "sorted" then sortedB d₁ else if f==nm "str" then strB d₁ else if f==nm "int" then intB d₁ else none)=some d:=e
 refine ifB e (fun q e=>by obtain rfl:=eqB q;exact ⟨_,rfl,(fun a q=>nomatch q),fun A s W v Q E rm hW rv h=>b_len rv e h⟩) fun e=> ?_
 refine ifB e (fun q e=>by obtain rfl:=eqB q;exact ⟨_,rfl,(fun a q=>nomatch q),fun A s W v Q E rm hW rv h=>b_sum rm.hh rv e h⟩) fun e=> ?_
 refine ifB e (fun q e=>by obtain rfl:=eqB q;exact ⟨_,rfl,(fun a q=>nomatch q),fun A s W v Q E rm hW rv h=>b_max rm.hh rv e h⟩) fun e=> ?_
 refine ifB e (fun q e=>by obtain rfl:=eqB q;exact ⟨_,rfl,(fun a q=>nomatch q),fun A s W v Q E rm hW rv h=>b_sorted rm hW rv e h⟩) fun e=> ?_
 refine ifB e (fun q e=>by obtain rfl:=eqB q;exact ⟨_,rfl,(fun a q=>nomatch q),fun A s W v Q E rm hW rv h=>b_str rv e h⟩) fun e=> ?_
 refine ifB e (fun q e=>by obtain rfl:=eqB q;exact ⟨_,rfl,(fun a q=>nomatch q),fun A s W v Q E rm hW rv h=>b_int rv e h⟩) fun e=> ?_
 exact nnE e
theorem jn_ok {t:Option Tab} {sep:Str} {d₁ d:D} (e:BB t (nm "join") [.str sep,d₁]=some d):joinB sep d₁=some d:=(if_pos rfl).symm.trans (show (if nm "join" == nm "join" then joinB sep d₁ else none)=some d from e)
theorem dg_ok {t:Option Tab} {x:Str} {p q d:D} (e:BB t x [.none,p,q]=some d):x=nm "EXACT_TOKEN_TYPES" /\ etokB p q=some d:=
 ifB (show (if x==nm "EXACT_TOKEN_TYPES" then etokB p q else none)=some d from e) (fun h e=>⟨eqB h,e⟩) nnE
theorem gc_ok {t:Option Tab} {x:Str} {d:D} (e:BB t x []=some d):x=nm "NT_OFFSET" /\ d = .int 256:=
 ifB (show (if x==nm "NT_OFFSET" then some (.int 256) else none)=some d from e) (fun h e=>⟨eqB h,(Option.some.inj e).symm⟩) nnE
theorem om_el {t:Option Tab} {f:Str} {ds:List D} {d:D} {P:Prop} (e:BB t f (.bool true :: .bool true::ds)=some d) (k1 : ∀ tb,t=some tb->ds=[]->f=nm "items" -> tabOk tb=true->tabItems tb=d->P)
  (k2 : ∀ tb x,t=some tb->ds=[.str x]->f=nm "get_all" -> (okStr x&&tabOk tb)=true->tabGet tb x=d->P):P:=by
 rcases ds with _|⟨x,r⟩
 ·exact ifB (show (if f==nm "items" then t.bind fun t=>if tabOk t then some (tabItems t) else none else none)=some d from e) (fun h e=>bindE e fun tb ht e=>k1 tb ht rfl (eqB h) (iteE e).1 (iteE e).2) nnE
 ·rcases r with _|⟨y,r⟩
  ·rcases x with _|_|_|x|_|_|_
   case str=>exact ifB (show (if f==nm "get_all" then t.bind fun t=>if okStr x&&tabOk t then some (tabGet t x) else none else none)=some d from e) (fun h e=>bindE e fun tb ht e=>k2 tb x ht rfl (eqB h) (iteE e).1 (iteE e).2) nnE
   all_goals exact nnE e
  ·exact nomatch x<;>exact nnE e
theorem ctx_of (H:Top prog w T F) (V:Value->Prop) (t:Option Tab) (Φ:Fns) (k:Nat)
  (fn : ∀ f ds d,Φ f ds=some d -> ∃ a,F f=some a /\ ∀ (A:Around) (s:Shared) (W:List Addr) (vs:List Value),Room A k->T s.heap->Shut W s.heap->RepL W s.heap vs ds ->
   codeAny (model prog w) A (.call (.ref a) ⟨vs,[]⟩) (fun r s'=> ∃ v,r = .ok (.ret v)/\Ext s s'/\Rep W s'.heap v d) s)
  (om : ∀ u f ds d,V u->BB t f (.bool true :: .bool true::ds)=some d -> ∃ fA:Addr,(∀ (A:Around) (s:Shared) (pl:Sem Bool) (Q:Value×List Value->Shared->Prop) (E:Value->Shared->Prop),T s.heap->Q (.ref fA,[u]) s->wpAny (model prog w) A (getMethod u f pl) Q E s) /\
   (∀ h,T h -> ∃ o fd,h.get? fA=some o/\o.data = .func fd) /\ ∀ (A:Around) (s:Shared) (W:List Addr) (vs:List Value),Room A k->T s.heap->Shut W s.heap->RepL W s.heap vs ds ->
   codeAny (model prog w) A (.call (.ref fA) ⟨u::vs,[]⟩) (fun r s'=> ∃ v,r = .ok (.ret v)/\Ext s s'/\Rep W s'.heap v d) s):Ctx prog w T V F Φ (BB t) k where
 top:=H.top
 fn:=fn
 bl:=fun f d₁ d e=>by
  obtain ⟨fv,h1,h2,h3⟩:=bl_ok (prog:=prog) (w:=w) e
  exact ⟨fv,h1,h2,fun A s W v Q E rm Z hW rv h=>h3 A s W v Q E rm hW rv h⟩
 jn:=fun sep d₁ d e A s W v t Q E rm Z hW hs rv h=>b_join rv hs (jn_ok e) h
 om:=om
 dg:=fun x p q d e=>by
  refine ea02 (dg_ok e) fun Z0 e'=> ?_;subst Z0
  exact H.dg p q d e'
 gc:=fun x d e h hT=>by
  refine ea02 (gc_ok e) fun Z0 Z1=> ?_;subst Z0;subst Z1
  obtain ⟨t,ht⟩:=H.gc h hT
  exact ⟨_,ht,fun W h=> .int _ _⟩
theorem gn_ok (H:Top prog w T F) {k:Nat} (C:Ctx prog w T (fun Z=>False) F (fun Z Z=>none) (BB none) k) (f:Str) (d:D) (xs:List D) (e:GG f d=some xs) : ∃ a,F f=some a /\ ∀ (A:Around) (s:Shared) (W:List Addr) (v:Value) (Q:Value->Shared->Prop) (E:Value->Shared->Prop),Room A (k+1)->T s.heap->Shut W s.heap->Rep W s.heap v d ->
  (∀ I s' own G P,Ext s s'->(∀ b,own b->s.heap.get? b=none)->(∀ j,G j->s.gens[j]? = none)->Itr prog w T (k+1) I xs own G P->(∀ W' s'',(∀ b∈W',b∈W\/s'.heap.get? b=none)->Ext s' s''->P W' s'')->Q (.ref I) s') ->
  wpAny (model prog w) A (call (.ref a) [v]) (fun x s₁=>wpAny (model prog w) A (pyIter x) Q E s₁) E s:=by
 unfold GG at e
 split at e
 ·rename_i q
  rw [beq_iff_eq] at q;subst q
  split at e
  ·simp only [Option.some.injEq] at e;subst e
   refine ea35 H.gen fun a fd body h1 h2 h3 h4 h5=> ?_
   exact ⟨a,h1,fun A s W v Q E rm hT hW r h=>gen_ok C h2 h3 h4 h5 H.base A s W v Q E rm hT hW r h⟩
  ·exact nnE e
 ·exact nnE e
set_option tactic.hygienic true in
theorem phi_ok (H:Top prog w T F) : ∀ n:Nat,∀ f ds d,Phi n f ds=some d -> ∃ a,F f=some a /\ ∀ (A:Around) (s:Shared) (W:List Addr) (vs:List Value),Room A (n+1)->T s.heap->Shut W s.heap->RepL W s.heap vs ds ->
   codeAny (model prog w) A (.call (.ref a) ⟨vs,[]⟩) (fun r s'=> ∃ v,r = .ok (.ret v)/\Ext s s'/\Rep W s'.heap v d) s
 | 0,f,ds,d,e=>by simp [Phi] at e
 | n+1,f,ds,d,e=>by
  have C0:=ctx_of H (fun Z=>False) none (fun Z Z=>none) n (fun f ds d e=>by simp at e) (fun u f ds d hv=>hv.elim)
  have C:Ctx prog w T (fun Z=>False) F (Phi n) (BB none) (n+1):=ctx_of H (fun Z=>False) none (Phi n) (n+1) (fun f ds d e=>phi_ok H n f ds d e) (fun u f ds d hv=>hv.elim)
  have CG:CtxG prog w T (fun Z=>False) F (Phi n) (BB none) GG (n+1):={ C with gn:=fun f d xs e=>gn_ok H C0 f d xs e }
  unfold Phi at e
  split at e
  ·rename_i p hp
   unfold run at e
   split at e
   ·rename_i hlen
    obtain ⟨⟨ρ',o⟩,he,ho⟩:=Option.bind_eq_some_iff.mp e
    simp only at ho
    subst ho
    have hmem:=List.mem_of_find?_eq_some hp
    have hnm:=List.find?_some hp
    rw [beq_iff_eq] at hnm
    refine ea34 (H.fns p hmem) fun a fd body h1 h2 h3 h4=> ?_
    rw [hnm] at h1
    exact ⟨a,h1,fun A s W vs rm hT hW r=>fn_ok CG h2 h3 h4 he hlen A s W vs rm hT hW r⟩
   ·exact nnE e
  ·exact nnE e
end
noncomputable def On (h₁ h:Heap):Prop:= ∀ b o,h₁.get? b=some o->h.get? b=some o
theorem On.refl (h:Heap):On h h:=fun Z Z e=>e
theorem fnIs_of {h₁:Heap} {a:Addr} {o:Obj} {fd:FuncData} {params:List Str} {body:List Stmt} (ho:h₁.get? a=some o) (hd:o.data = .func fd) (hlim:h₁.NoLimit) (hcd:h₁.CodeRec fd.code fd.qualname) (hb:fd.body = .stmts body)
  (bind : ∀ vals:List Value,vals.length=params.length->bindArgs fd ⟨vals,[]⟩=pure (params.zip vals)) (clo:fd.closure=[]) (gl:fd.globals=mainGlobals) (bl:fd.builtins=builtinsNs) (co:fd.scope.isCoroutine=false) (kd:fd.scope.kind = .function)
  (nofree:fd.scope.names.all (fun x=> !(x.2 == .free))=true) (nd:params.Nodup) (ps:params.all (okS fd.scope.names)=true):FnIs (On h₁) a fd params body:=
 ⟨fun h hT=>⟨o,hT _ _ ho,hd⟩,fun h hT=>hlim.keeps hT,fun h hT=>hcd.keeps hT,hb,bind,clo,gl,bl,co,kd,nofree,nd,ps⟩
theorem topS_of {h₁:Heap} {mg mb:Str->Option Value} (hg:h₁.Ns mainGlobals mg) (hb:h₁.Ns builtinsNs mb) {F:Str->Option Addr} (hF : ∀ f a,F f=some a->mg f=some (.ref a) /\ ∃ o fd,h₁.get? a=some o/\o.data = .func fd)
  (hB : ∀ f v,bltV f=some v->mg f=none/\mb f=some v):TopS (On h₁) F:=
 ⟨fun h h' hT hk b o e=>hk b o (hT b o e),fun h hT f a e=>by
  obtain ⟨h1,o,fd,h2,h3⟩:=hF f a e
  exact ⟨.inl ⟨mg,hg.keeps hT,h1⟩,o,fd,hT _ _ h2,h3⟩,fun h hT f v e=> .inr ⟨mg,mb,hg.keeps hT,(hB f v e).1,hb.keeps hT,(hB f v e).2⟩⟩
theorem blt_names {f:Str} {v:Value} (h:bltV f=some v):f∈[nm "len", nm "sum", nm "max", nm "sorted", nm "str", nm "int", nm "range", nm "enumerate"]/\f≠nm "__name__" /\ bootBuiltins f=some v:=by
 unfold bltV at h
 repeat' (split at h)
 all_goals first
  | (rename_i q;rw [beq_iff_eq] at q;subst q;obtain rfl:=Option.some.inj h;exact ⟨by decide +kernel,by decide +kernel,by decide +kernel⟩)
  | exact nnE h
section
variable {prog:Program} {w:World}
theorem dg_of {K:Frag} {h₁:Heap} {mg:Str->Option Value} {Da:Addr} {es:Array DictEntry} {n:Nat} (X:K.In h₁) (hg:h₁.Ns mainGlobals mg) (hm:mg (nm "EXACT_TOKEN_TYPES")=some (.ref Da)) (hl:K.lookup Da=some ⟨.type "dict", none,.dict es n,#[]⟩) (hk:KeysLit w.params es.toList) (hd:(Da==sysModules)=false)
  (hE : ∀ (u:Str) (q d:PyData),etokB (.str u) q=some d->(∃ i t,nsIn K Da u=some (some (.int i t))/\d = .int i)\/(nsIn K Da u=some none/\d=q)) (p q d:PyData) (e:etokB p q=some d) :
  ∃ D:Addr,(∀ h,On h₁ h->Glob h (nm "EXACT_TOKEN_TYPES") (.ref D))/\(∀ (A:Around) (s:Shared) (pl:Sem Bool) (Q:Value×List Value->Shared->Prop) (E:Value->Shared->Prop),On h₁ s.heap->Q (.builtin "dict.get", [.ref D]) s->wpAny (model prog w) A (getMethod (.ref D) ("get" : Str) pl) Q E s) /\
  ∀ (A:Around) (s:Shared) (W:List Addr) (v u:Value) (Q:Value->Shared->Prop) (E:Value->Shared->Prop),Room A 0->On h₁ s.heap->Shut W s.heap->Rep W s.heap v p->Rep W s.heap u q->Gives s W d Q->wpAny (model prog w) A (call (.builtin "dict.get") [.ref D,v,u]) Q E s:=by
 refine ⟨Da,fun h hT=> .inl ⟨mg,hg.keeps hT,hm⟩,fun A s pl Q E hT h=> ?_,fun A s W v u Q E rm hT hW rv ru h=> ?_⟩
 ·have hmap:=mapOf_K (prog:=prog) (w:=w) (fun a o e=>hT a o (X a o e):K.In s.heap) hl hk
  exact getMethod_builtin hmap.typeIs PySem.F.plainAttrs_dict PySem.F.slot_dict_get PySem.F.type_dict_get hmap.noDict h
 ·have hmap:=mapOf_K (prog:=prog) (w:=w) (fun a o e=>hT a o (X a o e):K.In s.heap) hl hk
  cases rv with
  | str x t hx=>
   refine call_meetsIn PySem.F.slot_dict_get hmap.typeIs PySem.F.entry_dict_get (PySem.F.args_dict_get_3 _ _ _) (meets_dict_get_default (strKind prog w) Da (k:=x) (strKind_is prog w x t) hd u) ⟨_,hmap,?_⟩
   rcases hE x q d e with ⟨i,t',h1,rfl⟩|⟨h1,rfl⟩
   ·refine rwl (find_K hl h1) ?_
    exact h _ _ (Ext.toks s _) (.int _ _)
   ·refine rwl (find_K hl h1) ?_
    exact h _ _ (Ext.toks s _) ru
  | _=>simp [etokB] at e
end
open PySem PySem.W PySem.Calls PyProof.Rows PySem.SeqAt PySem.Builtin PySem.Builtin.Re
theorem plainAttrs_re:PlainAttrs "re.Pattern" :=
 ⟨⟨"object.__getattribute__", by refine rwl (typeLookup_type _ _) (rwl builtinLookup_eq_fast ?_);kernel_rfl,by decide +kernel⟩,by refine rwl (typeLookup_type _ _) (rwl builtinLookup_eq_fast ?_);kernel_rfl⟩
theorem slot_re:Slot "re.Pattern" "search" "re.Pattern.search" :=
 .of (owner:= "re.Pattern") (n:= "search") (by refine rwl (typeLookup_type _ _) (rwl builtinLookup_eq_fast ?_);kernel_rfl) rfl rfl rfl
  (by first|exact .inl rfl|exact .inr rfl) (by refine rwl (isSubtype_type _ _) ?_;kernel_rfl)
theorem type_re:typeOf (.builtin "re.Pattern.search")=pure (.type "method_descriptor"):=by show builtinType _=_;refine rwl builtinType_eq_fast ?_;kernel_rfl
theorem entry_re:entryFor table "re.Pattern.search" = some Builtin.«re.Pattern.search» := entryFor_of_tree (by kernel_rfl)
theorem args_re (a b:Value):argsOk "re.Pattern.search" ⟨[a,b],[]⟩:=by
 kernel_rfl
noncomputable def runs:Nat->Sre.M->Option Sre.M
 | 0,_=>none
 | n+1,m=>if (m.runFor 4).outcome.isSome then some (m.runFor 4) else runs n (m.runFor 4)
section
variable {M:Model} {A:Around} {E:Value->Shared->Prop} {s:Shared}
theorem reDrive_ok {Q:Sre.M->Shared->Prop} : ∀ (n t:Nat) (m m':Sre.M),runs n m=some m'->Q m' s->wpAny M A (reDrive (t+n) m) Q E s
 | 0,_,_,_,e,_=>by cases e
 | n+1,t,m,m',e,q=>by
  unfold runs at e
  show wpAny M A (reDrive ((t+n)+1) m) Q E s
  unfold reDrive reTurnSteps
  dsimp only
  split at e
  ·rename_i h
   obtain rfl:=Option.some.inj e
   refine rwl (if_pos h) ?_
   exact wpAny_pure q
  ·rename_i h
   refine rwl (if_neg h) ?_
   exact wpAny_bind (wpAny_rule (reDrive_ok n t _ m' e q))
theorem rules_ok {m:Sre.M} {Q:PUnit->Shared->Prop} : ∀ (l:List Nat) (u:PUnit),Q u s->wpAny M A (forIn l u fun i r=>do
   if m.seen.has i then rule (Sre.names.getD i "")
   pure (ForInStep.yield r)) Q E s
 | [],u,q=>by refine rwl List.forIn_nil ?_;exact wpAny_pure q
 | i::l,u,q=>by
  refine rwl (List.forIn_cons _ _ _ _) ?_
  refine wpAny_bind ?_
  dsimp only
  split
  ·exact wpAny_bind (wpAny_rule (wpAny_pure (rules_ok l u q)))
  ·exact wpAny_pure (rules_ok l u q)
end
theorem named_re (v:Value):reNamed "re.Pattern.search" "search" ["string", "pos", "endpos"] 1 [v] []=pure [some v,none,none]:=by kernel_rfl
noncomputable abbrev reObj (p:Value) (t1 t2 t3:Tok) (C:Addr):Obj:={ cls:= .type "re.Pattern", data:= .fields #[p,.int 32 t1,.int 0 t2,.none,.none,.ref C,.int 0 t3] }
noncomputable abbrev codeObj (vs:List Value) (n:Nat):Obj:={ cls:= .type "tuple", data:= .seq vs.toArray n }
noncomputable def failsOn (vs:List Value) (c:Nat):Bool:=match runs 40 (Sre.forSearch ((vs.toArray.map reRawOf).map (·.toNat)) #[c] 0 0 1 false) with
 | some m=>(match m.outcome with|some .failed=>true|_=>false)
 | none=>false
section
variable {prog:Program} {w:World}
set_option tactic.hygienic true in
theorem meets_search {P C:Addr} {p:Value} {t1 t2 t3:Tok} {vs:List Value} {n:Nat} {c:Nat} {t:Tok} (hf:failsOn vs c=true) :
  MeetsIn prog w (Builtin.«re.Pattern.search» ⟨[.ref P,.str ⟨#[c]⟩ t],[]⟩) (fun A R s=>s.heap.get? P=some (reObj p t1 t2 t3 C)/\s.heap.get? C=some (codeObj vs n)/\R (.ok (.ret .none)) s):=by
 intro A R s ⟨hP,hC,hR⟩
 unfold failsOn at hf
 split at hf
 ·rename_i m hm
  split at hf
  ·rename_i ho
   unfold Builtin.«re.Pattern.search» reTarget
   dsimp only
   refine rwl (named_re _) ?_
   refine wpAny_bind ?_
   refine wpAny_bind (wpAny_pure ?_)
   refine wpAny_bind (wpAny_pure ?_)
   refine wpAny_bind (wpAny_pure ?_)
   refine wpAny_bind ?_
   unfold fieldsOf
   refine wpAny_bind (wpAny_load hP ?_)
   refine wpAny_pure ?_
   refine wpAny_bind ?_
   unfold reTextOf asStr?
   refine wpAny_bind (wpAny_pure ?_)
   refine wpAny_pure ?_
   show wpAny _ _ (do
    reNoCollectionInside (.str ⟨#[c]⟩ t) 0
    let r <- reRawItems (.ref C)
    pure (⟨.ref P,.str ⟨#[c]⟩ t,r.map (·.toNat),#[c],0,0,0,1⟩:ReTarget)) _ _ _
   refine wpAny_bind (wpAny_pure ?_)
   refine wpAny_bind ?_
   unfold reRawItems seqItems?
   refine wpAny_bind (wpAny_bind (wpAny_load hC ?_))
   refine wpAny_pure (wpAny_pure (wpAny_pure ?_))
   refine wpAny_bind ?_
   refine wpAny_bind ?_
   refine rwl (show (2:Nat)^64=18446744073709551576+40 from by decide +kernel) ?_
   refine reDrive_ok 40 18446744073709551576 _ m hm ?_
   refine wpAny_bind (rules_ok _ _ ?_)
   refine rwl ho ?_
   exact wpAny_pure (wpAny_pure hR)
  ·exact nomatch hf
 ·exact nomatch hf
end
structure HF (h₁:Heap) (env:Env) (sc:Sc) (N:Str->Option Value) (s₀ s:Shared):Prop where
 es:EnvS env sc
 fr:FrameS env s.heap
 vals : ∀ x v,N x=some v->Holds env s.heap x v
 slot : ∀ a,Slots env a->s₀.heap.get? a=none
 on:On h₁ s.heap
 base : ∀ a,s₀.heap.get? a=none->h₁.get? a=none
section
variable {M:Model} {A:Around} {E:Value->Shared->Prop} {env:Env} {sc:Sc} {N:Str->Option Value} {s₀ s s':Shared} {x:Str} {v:Value} {h₁:Heap}
theorem On.gone {h:Heap} (o:On h₁ h) {a:Addr} (e:h.get? a=none):h₁.get? a=none:=by
 rcases q:h₁.get? a with _|x
 ·rfl
 ·rw [o _ _ q] at e;exact nomatch e
theorem On.chg {P:Addr->Prop} {G:Nat->Prop} (o:On h₁ s.heap) (c:Chg P G s s') (hP : ∀ a,P a->h₁.get? a=none):On h₁ s'.heap:=fun b x e=>c.keep b x (fun q=>by rw [hP b q] at e;exact nnE e) (o b x e)
theorem HF.keeps (f:HF h₁ env sc N s₀ s) (ks : ∀ b o,Slots env b->s.heap.get? b=some o->s'.heap.get? b=some o) (ho:On h₁ s'.heap):HF h₁ env sc N s₀ s':=by
 refine ⟨f.es,f.fr.keeps ks,fun x v e=> ?_,f.slot,ho,f.base⟩
 rcases f.vals x v e with ⟨a,m,hn,hm⟩|⟨a,cc,hc,o,ho,hd⟩
 ·exact .inl ⟨a,m,hn.at' fun o e=>ks _ o (.inl rfl) e,hm⟩
 ·exact .inr ⟨a,cc,hc,o,ks _ o (.inr ⟨x,hc⟩) ho,hd⟩
theorem HF.ext (f:HF h₁ env sc N s₀ s) (y:Ext s s'):HF h₁ env sc N s₀ s':=f.keeps (fun b o Z e=>y.keep b o e) fun b o e=>y.keep b o (f.on b o e)
theorem HF.chg {P:Addr->Prop} {G:Nat->Prop} (f:HF h₁ env sc N s₀ s) (c:Chg P G s s') (hS : ∀ a,P a -> ¬ Slots env a) (hP : ∀ a,P a->h₁.get? a=none):HF h₁ env sc N s₀ s':=f.keeps (fun b o hb e=>c.keep b o (fun q=>hS b q hb) e) (f.on.chg c hP)
theorem HF.name {pos:Pos} {Q:Value->Shared->Prop} (f:HF h₁ env sc N s₀ s) (hx:okN sc x=true) (hv:N x=some v) (h:Q v s):wpAny M A (eval (.Name x pos) env) Q E s:=name_holds f.es hx (f.vals x v hv) h
theorem HF.store {Q:Unit->Shared->Prop} (f:HF h₁ env sc N s₀ s) (hx:okS sc x=true)
  (h : ∀ s',HF h₁ env sc (fun y=>if y=x then some v else N y) s₀ s'->Chg (Slots env) (fun Z=>False) s s'->Q () s'):wpAny M A (storeName env x v) Q E s:=by
 refine store_ok f.es f.fr (okS_hx hx) fun h' tk fr' hh hh' c hsl Z=> ?_
 have cc:Chg (Slots env) (fun Z=>False) s { s with heap:=h',toks:=tk }:=c.mono (fun a ha=>by subst ha;exact hsl) fun Z h=>h
 refine h _ ⟨f.es,fr',fun y u e=> ?_,f.slot,f.on.chg cc fun a ha=>f.base a (f.slot a ha),f.base⟩ cc
 by_cases q:y=x
 ·rw [if_pos q] at e;obtain rfl:=Option.some.inj e;refine rwl q ?_;exact hh
 ·rw [if_neg q] at e;exact hh' y u q (f.vals y u e)
end
structure FnG (h:Heap) (a:Addr) (fd:FuncData) (body:List Stmt):Prop where
 at' : ∃ o,h.get? a=some o/\o.data = .func fd
 lim:h.NoLimit
 cd:h.CodeRec fd.code fd.qualname
 bd:fd.body = .stmts body
 clo:fd.closure=[]
 gl:fd.globals=mainGlobals
 bl:fd.builtins=builtinsNs
 co:fd.scope.isCoroutine=false
 gen:fd.scope.isGenerator=false
 kd:fd.scope.kind = .function
 nofree:fd.scope.names.all (fun x=> !(x.2 == .free))=true
theorem FnG.keeps {h h':Heap} {a:Addr} {fd:FuncData} {body:List Stmt} (I:FnG h a fd body) (hk : ∀ b o,h.get? b=some o->h'.get? b=some o):FnG h' a fd body:=
 { I with at':=ea12 I.at' fun o h1 h2=>⟨o,hk _ _ h1,h2⟩,lim:=I.lim.keeps hk,cd:=I.cd.keeps hk }
section
variable {prog:Program} {w:World} {k:Nat}
theorem call_hf {h₁:Heap} {A:Around} {a:Addr} {fd:FuncData} {body:List Stmt} {args:Args} {s:Shared} {R:Result->Shared->Prop} (rm:Room A (k+1)) (I:FnG s.heap a fd body) (hon:On h₁ s.heap) (P:List (Str×Value)->Shared->Prop)
  (hb : ∀ (Q:List (Str×Value)->Shared->Prop) (E:Value->Shared->Prop),(∀ binds s₁,P binds s₁->Q binds s₁)->wpAny (model prog w) A.in1 (bindArgs fd args) Q E s)
  (hP : ∀ binds s₁,P binds s₁->Ext s s₁/\(binds.map (·.1)).Nodup /\ ∀ x∈binds,okS fd.scope.names x.1=true)
  (h : ∀ binds s₁ s₂ env E,P binds s₁->Ext s₁ s₂->HF h₁ env fd.scope.names (fun x=>binds.lookup x) s s₂->Room (A.deeper env) k->(∀ a,Slots env a->s₁.heap.get? a=none) ->
   wpAny (model prog w) (A.deeper env) (execs body env) (fun f s'=>R (.ok (.ret (match f with | .ret v=>v|_=> .none))) s') E s₂) :
  codeAny (model prog w) A (.call (.ref a) args) R s:=by
 obtain ⟨o,ho,hdata⟩:=I.at'
 refine codeAny_call_function (by have:=rm.dp;exact Nat.lt_of_add_right_lt this) ho hdata I.co I.gen I.bd I.cd ?_
 refine hb _ _ fun binds s₁ p=> ?_
 refine ea03 (hP binds s₁ p) fun x₁ hnd hok=> ?_
 refine rwl I.clo ?_
 refine wpAny_newFunctionEnv_cells I.kd (fun x hx=> ?_) fun env he s₂ x=> ?_
 ·rcases okS_hx (hok x hx) with z|z
  ·exact .inl z
  ·refine ea11 (cellsFrom_has fd.scope.names (s₁.heap.objs.size+1) x.1 (mem_of_lookup z)) fun c hc=> ?_
   exact .inr ⟨z,by refine rwl hc ?_;rfl⟩
 subst he
 have xx:Ext s₁ s₂:=by
  refine ea21 x.toInCall.same fun h' tk Z2=> ?_;subst Z2
  exact Ext.heap tk x.toInCall.keep
 have hslot : ∀ b,Slots (callEnvC fd s₁.heap.objs.size a) b->s₁.heap.get? b=none:=fun b hb=>by
  rcases hb with rfl|⟨y,hy⟩
  ·exact get?_lt x.toInCall.fresh
  ·have:=x.above y b (mem_of_lookup hy)
   exact get?_lt (Nat.le_of_lt (Nat.lt_of_le_of_lt x.toInCall.fresh this))
 refine ⟨I.lim.keeps (x₁.trans xx).keep,codeAny_func (h binds s₁ s₂ _ _ p xx ?_ (rm.deeper _) hslot)⟩
 have es:EnvS (callEnvC fd s₁.heap.objs.size a) fd.scope.names:=by
  refine ⟨I.kd,I.gl,I.bl,fun y hy=>hy,fun y hy=>⟨hy,cellsFrom_has _ _ _ (mem_of_lookup hy)⟩,fun y hy=> ?_,fun y hy=>hy⟩
  have:=List.all_eq_true.mp I.nofree _ (mem_of_lookup hy)
  simp at this
 have fr:FrameS (callEnvC fd s₁.heap.objs.size a) s₂.heap:=⟨⟨_,x.toInCall.ns⟩,fun y c hc=>⟨_,x.cell y c hc⟩,fun y z c hy hz=>name_of_addr x.apart (mem_of_lookup hy) (mem_of_lookup hz)⟩
 refine ⟨es,fr,fun y v hv=> ?_,fun b hb=>x₁.none (hslot b hb),fun b o e=>(x₁.trans xx).keep b o (hon b o e),fun b e=>hon.gone e⟩
 ·have hm:=mem_of_lookup hv
  by_cases hk:(callEnvC fd s₁.heap.objs.size a).kindOf y=some .local
  ·exact .inl ⟨hk,_,x.toInCall.ns,bindL_get hk _ _ hnd hm⟩
  ·rcases okS_hx (hok _ hm) with z|z
   ·exact absurd z hk
   ·refine ea11 (cellsFrom_has fd.scope.names (s₁.heap.objs.size+1) y (mem_of_lookup z)) fun c hc=> ?_
    have q:bindC (callEnvC fd s₁.heap.objs.size a).kindOf binds (fun Z=>none) y=some v:=bindC_get hk _ _ hnd hm
    have:s₂.heap.IsCell c (bindC (callEnvC fd s₁.heap.objs.size a).kindOf binds (fun Z=>none) y):=x.cell y c hc
    rw [q] at this
    exact .inr ⟨.inl z,c,hc,this⟩
end
noncomputable def isGl (sc:Sc) (x:Str):Bool:=sc.lookup x==some .globalImplicit && !(x==("__debug__" : Str))
noncomputable def selfN:Str:=nm "self"
noncomputable def valueN:Str:=nm "value"
noncomputable def nameN:Str:=nm "name"
noncomputable def regexN:Str:=nm "regex"
noncomputable def typeN:Str:=nm "type"
noncomputable def strN:Str:=nm "str"
noncomputable def re1N:Str:=nm "_name_disallowed_re"
noncomputable def re2N:Str:=nm "_value_disallowed_re"
noncomputable def searchN:Str:= "search"
inductive ConvOk (sc:Sc):List Stmt->Prop
 | mk {z1 z2 z3 z4 z5 z6 z7 z8 z9 z10 z11 z12 ap z13 p z14 z15 z16 z17 z18 z19} (h1_:(ap.endLine==p.line)=true) (h2_:okN sc valueN=true) (h3_:okN sc nameN=true) (h4_:okS sc regexN=true) (h5_:isGl sc typeN=true) (h6_:isGl sc strN=true) (h7_:isGl sc re1N=true) (h8_:isGl sc re2N=true):ConvOk sc [.If (.Compare (.Call (.Name typeN z1) [.Name valueN z2] [] z3) [.Is] [.Name strN z4] z5) [.Assign [.Name regexN z6] (.IfExp (.Name nameN z7) (.Name re1N z8) (.Name re2N z9) z10) z11,.If (.Call (.Attribute (.Name regexN z12) searchN ap) [.Name valueN z13] [] p) z14 [] z15,.Return (some (.Name valueN z16)) z17] [] z18,z19]
noncomputable def ReTop (T:Heap->Prop) (g:Str):Prop:= ∃ (P C:Addr) (p:Value) (t1 t2 t3:Tok) (vs:List Value) (n:Nat),(∀ h,T h->Glob h g (.ref P)/\h.get? P=some (reObj p t1 t2 t3 C)/\h.get? C=some (codeObj vs n)) /\ ∀ c∈okChars,failsOn vs c=true
structure TopH (h₁:Heap):Prop where
 ty : ∀ h,On h₁ h->Glob h typeN (.type "type")
 st : ∀ h,On h₁ h->Glob h strN (.type "str")
 li : ∀ h,On h₁ h->Glob h (nm "list") (.type "list")
 re1:ReTop (On h₁) re1N
 re2:ReTop (On h₁) re2N
section
variable {prog:Program} {w:World} {A:Around} {E:Value->Shared->Prop} {s₀ s:Shared} {env:Env} {sc:Sc} {N:Str->Option Value} {h₁:Heap} {c:Nat} {t:Tok} {b:Bool} {k:Nat}
theorem HF.glob {x:Str} {v:Value} {pos:Pos} {Q:Value->Shared->Prop} (f:HF h₁ env sc N s₀ s) (hx:isGl sc x=true) (g:Glob s.heap x v) (h:Q v s):wpAny (model prog w) A (eval (.Name x pos) env) Q E s:=by
 unfold isGl at hx
 simp only [Bool.and_eq_true,beq_iff_eq,Bool.not_eq_true'] at hx
 exact name_glob f.es hx.1 hx.2 g h
theorem bcall1 {fv:Value} (hnr : ∀ a,fv ≠ .ref a) {g:Str} {gp pos:Pos} {x:Expr} {Q:Value->Shared->Prop} (hst:notStar x=true)
  (h:wpAny (model prog w) A (eval (.Name g gp) env) (fun f s₁=>f=fv/\wpAny (model prog w) A (eval x env) (fun v s₂=>wpAny (model prog w) A (call fv [v]) Q E s₂) E s₁) E s):wpAny (model prog w) A (eval (.Call (.Name g gp) [x] [] pos) env) Q E s:=by
 refine wpAny_Call_Name_kw (wpAny_mono h (fun f s₁ h₁=> ?_) fun Z Z e=>e)
 obtain ⟨rfl,h₁⟩:=h₁
 refine callWith_of (P:=fun Z=>True) (by refine rwl (starEach_cons hst) ?_;rfl) (fun h' Z=>⟨.machine,.inr (.inl rfl),keeper_mach hnr⟩) ?_
 refine rwl (starEach_cons hst) ?_
 exact evalArgs_plain (PySem.Calls.spliced_cons (wpAny_mono h₁ (fun v s₂ h₂=>PySem.Calls.spliced_nil ⟨trivial,h₂⟩) fun Z Z e=>e))
theorem search_get {P C:Addr} {p:Value} {t1 t2 t3:Tok} {pl:Sem Bool} {Q:Value×List Value->Shared->Prop} (hP:s.heap.get? P=some (reObj p t1 t2 t3 C)) (h:Q (.builtin "re.Pattern.search", [.ref P]) s) :
  wpAny (model prog w) A (getMethod (.ref P) searchN pl) Q E s:=
 getMethod_builtin (T:= "re.Pattern") ⟨_,hP,rfl⟩ plainAttrs_re slot_re type_re (fun a e=>by cases e;exact ⟨_,hP,rfl⟩) h
theorem search_call {P C:Addr} {p:Value} {t1 t2 t3:Tok} {vs:List Value} {n:Nat} {Q:Value->Shared->Prop} (hP:s.heap.get? P=some (reObj p t1 t2 t3 C)) (hC:s.heap.get? C=some (codeObj vs n)) (hf:failsOn vs c=true) (h:Q .none s) :
  wpAny (model prog w) A (call (.builtin "re.Pattern.search") [.ref P,.str ⟨#[c]⟩ t]) Q E s:=
 call_meetsIn slot_re ⟨_,hP,rfl⟩ entry_re (args_re _ _) (meets_search hf) ⟨hP,hC,h⟩
theorem execs2 {st:Stmt} {r:List Stmt} {Q:Flow->Shared->Prop} (h:wpAny (model prog w) A (exec st env) (fun f s'=>match f with | .next=>wpAny (model prog w) A (execs r env) Q E s'|f=>Q f s') E s):wpAny (model prog w) A (execs (st::r) env) Q E s:=by
 refine rwl (execs_cons _ _ _) ?_
 refine wpAny_bind (wpAny_mono h (fun f s' h'=> ?_) fun Z Z e=>e)
 rcases f with _|_|_|_<;>first|exact h'|exact wpAny_pure h'
theorem conv_tail {g:Str} (H:ReTop (On h₁) g) (hg:isGl sc g=true) (f:HF h₁ env sc N s₀ s) (hv:N valueN=some (.str ⟨#[c]⟩ t)) (hc:c∈okChars) (k1:okN sc valueN=true) (k3:okS sc regexN=true) {gp ap p p1 p2 p3 p4 p5:Pos} (hline:(ap.endLine==p.line)=true) {body:List Stmt} {Q:Flow->Shared->Prop}
  (h : ∀ s',Chg (fun a=>s₀.heap.get? a=none) (fun Z=>False) s s'->Q (.ret (.str ⟨#[c]⟩ t)) s') :
  wpAny (model prog w) A (eval (.Name g gp) env) (fun v s₁=>wpAny (model prog w) A (storeName env regexN v) (fun Z s₂=>
   wpAny (model prog w) A (execs [.If (.Call (.Attribute (.Name regexN p1) searchN ap) [.Name valueN p2] [] p) body [] p3,.Return (some (.Name valueN p4)) p5] env) Q E s₂) E s₁) E s:=by
 obtain ⟨P,C,pp,t1,t2,t3,vs,n,hT,hf⟩:=H
 refine ea03 (hT _ f.on) fun hG hP hC=> ?_
 refine f.glob hg hG (f.store k3 fun s₁ f₁ c₁=> ?_)
 refine ea03 (hT _ f₁.on) fun Z hP₁ hC₁=> ?_
 refine execs2 (wpAny_If (wpAny_isTrue_value ?_ (by rfl)))
 have hk:=k3
 refine mcall (by rfl) (by simp) hline (f₁.name (holds_ok k3) (by exact rwl (if_pos rfl) rfl) fun pl=>search_get hP₁ ?_)
 refine callWith_of (P:=fun Z=>True) (by rfl) (fun h' Z=>⟨.machine,.inr (.inl rfl),keeper_mach fun a e=>by cases e⟩) ?_
 refine evalArgs_plain (PySem.Calls.spliced_cons (f₁.name k1 (by refine rwl (if_neg (by decide +kernel)) ?_;exact hv) (PySem.Calls.spliced_nil ⟨trivial,?_⟩)))
 refine search_call hP₁ hC₁ (hf c hc) ?_
 refine truthy_none ?_
 refine rwl (if_neg (by decide)) ?_
 refine wpAny_execs_nil ?_
 refine execs2 (wpAny_Return_some (f₁.name k1 (by refine rwl (if_neg (by decide +kernel)) ?_;exact hv) ?_))
 exact h _ (c₁.mono (fun a ha=>f.slot a ha) fun Z h=>h)
theorem conv_body (H:TopH h₁) {body:List Stmt} (hok:ConvOk sc body) (f:HF h₁ env sc N s₀ s) (hv:N valueN=some (.str ⟨#[c]⟩ t)) (hn:N nameN=some (.bool b)) (hc:c∈okChars) {Q:Flow->Shared->Prop}
  (h : ∀ s',Chg (fun a=>s₀.heap.get? a=none) (fun Z=>False) s s'->Q (.ret (.str ⟨#[c]⟩ t)) s'):wpAny (model prog w) A (execs body env) Q E s:=by
 cases hok with|mk hline k1 k2 k3 k4 k5 k6 k7=>
 refine execs2 (wpAny_If (wpAny_isTrue_Compare1 ?_ (by rfl)))
 refine bcall1 (fv:= .type "type") (fun a e=>by cases e) (by rfl) (f.glob k4 (H.ty _ f.on) ⟨rfl,f.name k1 hv ?_⟩)
 refine call_type_of (Tx:= "str") rfl (by decide) ?_
 refine f.glob k5 (H.st _ f.on) ?_
 refine wpAny_is_self (by rfl) (wpAny_truthy_bool ?_)
 refine rwl (if_pos rfl) ?_
 refine execs2 (wpAny_Assign_Name ?_ (by rfl))
 refine wpAny_IfExp (wpAny_isTrue_value (f.name k2 hn (wpAny_truthy_bool ?_)) (by rfl))
 rcases b with _|_
 ·exact conv_tail H.re2 k7 f hv hc k1 k3 hline h
 ·exact conv_tail H.re1 k6 f hv hc k1 k3 hline h
end
noncomputable def convN:Str:= "_convert_string_type"
noncomputable def headersN:Str:= "_headers"
noncomputable def addN:Str:= "add_header"
noncomputable def getAllN:Str:= "get_all"
noncomputable def itemsN:Str:= "items"
structure HdK (K:Frag) (C fI fV fA fG fM:Addr):Prop where
 mks:makesIn K C=true
 fi:findIn K (.ref C) "__init__" = some (some (.ref fI))
 ti:typeIn K (.ref fI)=some (.type "function")
 fv:findIn K (.ref C) convN=some (some (.ref fV))
 tv:typeIn K (.ref fV)=some (.type "function")
 fa:findIn K (.ref C) addN=some (some (.ref fA))
 ta:typeIn K (.ref fA)=some (.type "function")
 fg:findIn K (.ref C) getAllN=some (some (.ref fG))
 tg:typeIn K (.ref fG)=some (.type "function")
 fm:findIn K (.ref C) itemsN=some (some (.ref fM))
 tm:typeIn K (.ref fM)=some (.type "function")
 pg:plainGet K C headersN=true
 hd:hasDictIn K C=true
 fh:findIn K (.ref C) headersN=some none
 po:plainOver K C=true
 tk:takerIn K C headersN=some none
 sa:findIn K (.ref C) "__setattr__" = some (some (.builtin "object.__setattr__"))
noncomputable abbrev tabDict (hs:Int) (tk:Tok) (L:Addr):Obj:=dictOf [⟨hs,.str headersN tk,.ref L⟩] 1
structure TabI (h:Heap) (C x dx L:Addr) (hs:Int) (tk:Tok):Prop where
 inst:h.get? x=some (instObj C dx)
 dict:h.get? dx=some (tabDict hs tk L)
theorem TabI.keeps {h h':Heap} {C x dx L:Addr} {hs:Int} {tk:Tok} (t:TabI h C x dx L hs tk) (hk : ∀ b o,h.get? b=some o->h'.get? b=some o):TabI h' C x dx L hs tk:=⟨hk _ _ t.inst,hk _ _ t.dict⟩
theorem TabI.at {h:Heap} {C x dx L:Addr} {hs:Int} {tk:Tok} (t:TabI h C x dx L hs tk):InstAt h x (instObj C dx) C (some (tabDict hs tk L)):=⟨t.inst,rfl,rfl,t.dict⟩
section
variable {prog:Program} {w:World} {A:Around} {E:Value->Shared->Prop} {s₀ s:Shared} {env:Env} {sc:Sc} {N:Str->Option Value} {h₁:Heap} {K:Frag} {C fI fV fA fG fM x dx L:Addr} {hs:Int} {tk:Tok} {c:Nat} {t:Tok} {b:Bool} {k:Nat}
theorem get_headers {expr:Bool} {Q:Value->Shared->Prop} (HK:HdK K C fI fV fA fG fM) (X:K.In s.heap) (I:TabI s.heap C x dx L hs tk) (h:Q (.ref L) { s with toks:=s.toks+1 }):wpAny (model prog w) A (getAttr (.ref x) headersN expr) Q E s:=
 get_value X I.at (plainGet_of HK.pg).1 (findObj_own HK.hd HK.fh rfl (by kernel_rfl)) rfl h
theorem meth_get {f:Addr} {name:Str} {pl:Sem Bool} {Q:Value×List Value->Shared->Prop} (HK:HdK K C fI fV fA fG fM) (X:K.In s.heap) (I:TabI s.heap C x dx L hs tk) (hf:findIn K (.ref C) name=some (some (.ref f))) (ht:typeIn K (.ref f)=some (.type "function"))
  (hn:(headersN==name)=false) (h:Q (.ref f,[.ref x]) s):wpAny (model prog w) A (getMethod (.ref x) name pl) Q E s:=
 method_fn X I.at (plainGet_of HK.pg).1 (plainGet_of HK.pg).2 hf ht (by
  have e:lookIn name (tabDict hs tk L)=some none:=by
   refine rwl (lookIn_dict _ _ _) ?_
   unfold getL
   rw [List.find?_cons_of_neg (by show ¬ (headersN==name)=true;refine rwl hn ?_;decide)]
   rfl
  show (lookIn name (tabDict hs tk L)).map (·.isSome)=some false
  refine rwl e ?_;rfl) h
theorem mcallK {y:Str} {np ap pos:Pos} {name:Str} {args:List Expr} {kws:List Keyword} {Q:Value->Shared->Prop}
  (hform:methodCallForm (args.length+kws.length) (backTo pos (starEach args env)) (backToKw pos (keywordEach kws env))=true) (hline:(ap.endLine==pos.line)=true)
  (h:wpAny (model prog w) A (eval (.Name y np) env) (fun ov s₁=> ∀ pl,wpAny (model prog w) A (getMethod ov name pl) (fun r s₂=>wpAny (model prog w) A (callWith pos r.1 r.2 (backTo pos (starEach args env)) (backToKw pos (keywordEach kws env))) Q E s₂) E s₁) E s) :
  wpAny (model prog w) A (eval (.Call (.Attribute (.Name y np) name ap) args kws pos) env) Q E s:=by
 rw [arm_eval_Call];refine rwl (attrBase_plain (by rfl)) ?_
 refine wpAny_bind (wpAny_mono h (fun ov s₁ h₁=> ?_) fun Z Z e=>e)
 refine wpAny_bind (wpAny_standAt ?_)
 have hpos:methodCallPos true (.Name y np) env ap pos=pure pos:=by unfold methodCallPos;simp [hline]
 unfold methodCall
 refine rwl hform ?_
 refine wpAny_bind (wpAny_holding ?_)
 unfold calleeOf
 refine rwl (if_pos rfl) ?_
 refine wpAny_mono (h₁ _) (fun r s₂ h₂=> ?_) fun Z Z e=>e
 exact wpAny_bind (wpAny_of_eq hpos h₂)
structure ConvF (h:Heap) (fV:Addr) (fd:FuncData) (body:List Stmt):Prop where
 fn:FnG h fV fd body
 ok:ConvOk fd.scope.names body
 bind : ∀ u v b,bindArgs fd ⟨[u,v],[(nameN,b)]⟩=pure [(selfN,u),(valueN,v),(nameN,b)]
 ps:(okS fd.scope.names selfN&&okS fd.scope.names valueN&&okS fd.scope.names nameN)=true
structure Bas (K:Frag) (h₁:Heap) (C fI fV fA fG fM:Addr) (fdV:FuncData) (bV:List Stmt):Prop where
 top:TopH h₁
 k:K.In h₁
 hk:HdK K C fI fV fA fG fM
 cv:ConvF h₁ fV fdV bV
theorem inK {h:Heap} (X:K.In h₁) (o:On h₁ h):K.In h:=fun a ob e=>o a ob (X a ob e)
theorem conv_call {fdV:FuncData} {bV:List Stmt} {u:Value} {R:Result->Shared->Prop} (BB:Bas K h₁ C fI fV fA fG fM fdV bV) (rm:Room A (k+1)) (hon:On h₁ s.heap) (hc:c∈okChars) (h : ∀ s',Ext s s'->R (.ok (.ret (.str ⟨#[c]⟩ t))) s') :
  codeAny (model prog w) A (.call (.ref fV) ⟨[u,.str ⟨#[c]⟩ t],[(nameN,.bool b)]⟩) R s:=by
 have ps:=BB.cv.ps
 simp only [Bool.and_eq_true] at ps
 refine call_hf rm (BB.cv.fn.keeps hon) hon (fun binds s₁=>binds=[(selfN,u),(valueN,.str ⟨#[c]⟩ t),(nameN,.bool b)]/\s₁=s) (fun Q E h=> ?_) (fun binds s₁ p=> ?_) fun binds s₁ s₂ env E p x f rm' Z=> ?_
 ·refine rwl (BB.cv.bind _ _ _) ?_;exact wpAny_pure (h _ _ ⟨rfl,rfl⟩)
 ·obtain ⟨rfl,rfl⟩:=p
  refine ⟨Ext.refl _,(by decide +kernel:[selfN,valueN,nameN].Nodup),fun y hy=> ?_⟩
  simp only [List.mem_cons,List.not_mem_nil,or_false] at hy
  rcases hy with rfl|rfl|rfl
  ·exact ps.1.1
  ·exact ps.1.2
  ·exact ps.2
 ·obtain ⟨rfl,rfl⟩:=p
  refine conv_body BB.top BB.cv.ok f (t:=t) (c:=c) (b:=b) (by rfl) (by rfl) hc fun s' cc=> ?_
  exact h _ ((x.chg.trans cc).ext (fun Z q=>q) fun Z q=>q.elim)
theorem self_conv {fdV:FuncData} {bV:List Stmt} {Pt:Tok->Prop} (BB:Bas K h₁ C fI fV fA fG fM fdV bV) (rm:Room A (k+1)) (f:HF h₁ env sc N s₀ s) (hself:N selfN=some (.ref x)) (hok:okN sc selfN=true) (hc:c∈okChars)
  {X:Expr} {p1 ap p2 p3 p:Pos} {Q:Value->Shared->Prop} (hst:notStar X=true) (hline:(ap.endLine==p.line)=true)
  (I:TabI s.heap C x dx L hs tk) (hX : ∀ Q':Value->Shared->Prop,(∀ s' t,Pt t->Ext s s'->Q' (.str ⟨#[c]⟩ t) s')->wpAny (model prog w) A (eval X env) Q' E s) (h : ∀ s' t,Pt t->Ext s s'->Q (.str ⟨#[c]⟩ t) s') :
  wpAny (model prog w) A (eval (.Call (.Attribute (.Name selfN p1) convN ap) [X] [⟨some nameN,.Constant (.bool b) 0 p2,p3⟩] p) env) Q E s:=by
 have hse:starEach [X] env=[(false,eval X env)]:=by refine rwl (starEach_cons hst) ?_;rfl
 refine mcallK (by refine rwl hse ?_;rfl) hline (f.name hok hself fun pl=>meth_get BB.hk (inK BB.k f.on) I BB.hk.fv BB.hk.tv rfl ?_)
 obtain ⟨o,ho,hdt⟩:=BB.cv.fn.at'
 refine callWith_of (P:=fun hh=>On h₁ hh) (by refine rwl hse ?_;rfl) (fun h' hh=>⟨.frame,.inl rfl,keeper_fn (hh _ _ ho) hdt⟩) ?_
 refine evalArgs_kw2 (by rfl) ?_ (by exact rwl (starEach_cons hst) rfl)
 refine rwl hse ?_
 refine PySem.Calls.spliced_cons (hX _ fun s₁ t pt x₁=>PySem.Calls.spliced_nil ?_)
 refine kwAll_cons (wpAny_Constant_bool ?_)
 refine kwAll_nil ⟨(f.ext x₁).on,?_⟩
 exact wpAny_call (conv_call BB rm (f.ext x₁).on hc fun s' x₂=>h s' t pt (x₁.trans x₂))
end
section
variable {prog:Program} {w:World} {A:Around} {E:Value->Shared->Prop} {s₀ s:Shared} {env:Env} {sc:Sc} {N:Str->Option Value} {h₁:Heap} {K:Frag} {C fI fV fA fG fM x dx L:Addr} {hs:Int} {tk:Tok} {c:Nat} {t:Tok} {b:Bool} {k:Nat}
theorem for_empty {tg it:Expr} {body:List Stmt} {pos:Pos} {Q:Flow->Shared->Prop} (rm:Room A k) (hit:itOk it=true)
  (h : ∀ Q':Value->Shared->Prop,(∀ v s₁,Rep [] s₁.heap v (.list [])->Ext s s₁->Q' v s₁)->wpAny (model prog w) A (eval it env) Q' E s)
  (q : ∀ s',Ext s s'->Q .next s'):wpAny (model prog w) A (exec (.For tg it body [] pos) env) Q E s:=by
 refine wpAny_For (h _ fun v s₁ r x₁=>iter_seq r rfl fun I s₂ St x₂ hI hlt hF hS=> ?_) (folded_no hit env)
 refine codeAny_forLoop_any (fun Z s'=>s'=s₂) ?_ 1 rfl
 rintro n s' rfl
 refine ((hF (fun Z=>True) k).it A [] rm).done s' _ _ (hS [] s' (fun a ha=> .inl ha) (Ext.refl _)) fun s₃ c₃=> ?_
 exact wpAny_execs_nil (q s₃ (x₁.trans ((x₂.chg.trans c₃).ext (fun a ha=>by cases ha;exact hI) fun Z q=>q.elim)))
theorem own_set {v:Value} {Q:Unit->Shared->Prop} (HK:HdK K C fI fV fA fG fM) (X:K.In s.heap) (hx:s.heap.get? x=some (instObj C dx)) (hd:s.heap.get? dx=some emptyDict)
  (h : ∀ h' hs tk t',Heap.SameBut dx s.heap h'->h'.get? dx=some (dictOf [⟨hs,.str headersN tk,v⟩] 1)->Q () { s with heap:=h',toks:=t' }):wpAny (model prog w) A (setAttr (.ref x) headersN v) Q E s:=by
 obtain ⟨hh,g,d,tt,os⟩:=s
 have I:InstAt hh x (instObj C dx) C (some emptyDict):=⟨hx,rfl,rfl,hd⟩
 refine set_plain X I HK.sa ?_
 refine osa_open (s:=⟨hh,g,d,tt+1,os⟩) X I HK.po HK.tk fun b=> ?_
 refine ea12 (any_some HK.hd) fun cd hc hd'=> ?_
 dsimp only
 refine wpAny_bind (wpAny_pure (wpAny_bind (wpAny_bind (wpAny_loadPart hx (wpAny_bind ((looks_clsIn X hc).at ?_))))))
 refine rwl hd' ?_
 refine wpAny_pure (a:=some dx) (wpAny_bind (wpAny_pure (wpAny_bind ?_)))
 refine wpAny_bind (wpAny_bind (wpAny_askSetting (wpAny_pure (wpAny_bind (wpAny_mkText (wpAny_bind (wpAny_loadPart hd ?_)))))))
 have e:Obj.putName headersN (PyData.keyHash w.params headersN) (.str headersN (tt+1)) v emptyDict=dictOf [⟨PyData.keyHash w.params headersN,.str headersN (tt+1),v⟩] 1:=by kernel_rfl
 have D':(hh.update dx (Obj.putName headersN (PyData.keyHash w.params headersN) (.str headersN (tt+1)) v)).get? dx=some (dictOf [⟨PyData.keyHash w.params headersN,.str headersN (tt+1),v⟩] 1):=by
  rw [Heap.get?_update_self _ hd (by refine rwl e ?_;rfl),e]
 refine wpAny_updatePart hd ?_
 refine wpAny_bind (wpAny_lookBehind D' (pastItsLine_dict (by refine rwl List.size_toArray (rwl sizeLine_eq ?_);simp)) ?_)
 exact wpAny_pure (h _ _ _ _ (Heap.SameBut.update ..) D')
noncomputable def initN:Str:=nm "headers"
inductive InitOk (sc:Sc):List Stmt->Prop
 | mk {z1 z2 z3 z4 z5 z6 z7 z8 z9 z10 z11 z12 z13 z14 z15 z16 z17 z18 z19 z20 z21 z22 z23 z24 z25 z26 z27} (h1_:okN sc selfN=true) (h2_:okS sc initN=true) (h3_:isGl sc typeN=true) (h4_:isGl sc (nm "list")=true):InitOk sc [.Assign [.Name initN z1] (.IfExp (.Compare (.Name initN z2) [.IsNot] [.Constant .none z3 z4] z5) z6 (.List [] z7) z8) z9,.If (.Compare (.Call (.Name typeN z10) [.Name initN z11] [] z12) [.IsNot] [.Name (nm "list") z13] z14) z15 [] z16,.Assign [.Attribute (.Name selfN z17) headersN z18] (.Name initN z19) z20,.If (.Constant (.bool true) z21 z22) [.For z23 (.Name initN z24) z25 [] z26] [] z27]
theorem init_body (H:TopH h₁) (HK:HdK K C fI fV fA fG fM) (KX:K.In h₁) {body:List Stmt} (hok:InitOk sc body) (rm:Room A k) (f:HF h₁ env sc N s₀ s) (hv:N initN=some .none) (hn:N selfN=some (.ref x))
  (hx:s₀.heap.get? x=some (instObj C dx)) (hd:s₀.heap.get? dx=some emptyDict) (xx:Ext s₀ s) (hdx:h₁.get? dx=none) {Q:Flow->Shared->Prop}
  (h : ∀ s' hs tk L,Chg (fun a=>s₀.heap.get? a=none\/a=dx) (fun Z=>False) s₀ s'->TabI s'.heap C x dx L hs tk->s'.heap.get? L=some (lObj [] 0)->s₀.heap.get? L=none->Q .next s'):wpAny (model prog w) A (execs body env) Q E s:=by
 cases hok with|mk k1 k2 k3 k4=>
 have k2':=holds_ok k2
 have nd : ∀ a,Slots env a->a≠dx:=fun a ha q=>by have:=f.slot a ha;rw [q,hd] at this;exact nomatch this
 refine execs2 (wpAny_Assign_Name ?_ (by rfl))
 refine wpAny_IfExp (wpAny_isTrue_Compare1 (f.name k2' hv (wpAny_Constant_none (wpAny_isNot_self (by rfl) (wpAny_truthy_bool ?_)))) (by rfl))
 refine rwl (if_neg (by decide)) ?_
 refine wpAny_List (PySem.Calls.spliced_nil ⟨by decide,?_⟩)
 have x₁:Ext s _:=Ext.push' s { cls:= .type "list", data:= .seq ([]:List Value).toArray }
 have hL₀:s.heap.get? s.heap.objs.size=none:=get?_lt (Nat.le_refl _)
 have hL:(s.heap.push { cls:= .type "list", data:= .seq ([]:List Value).toArray }).get? s.heap.objs.size=some (lObj [] 0):=Heap.get?_push_size _ rfl
 refine (f.ext x₁).store k2 fun s₂ f₂ c₂=> ?_
 have hne : ∀ a o,s.heap.get? a=some o->a≠s.heap.objs.size:=fun a o e q=>by rw [q,hL₀] at e;exact nnE e
 have hLs : ¬ Slots env s.heap.objs.size:=fun q=>slots_live f.fr q hL₀
 have hL₂:s₂.heap.get? s.heap.objs.size=some (lObj [] 0):=c₂.keep _ _ hLs hL
 have e1:(fun y=>if y=initN then some (Value.ref s.heap.objs.size) else N y) initN=some (.ref s.heap.objs.size):=if_pos rfl
 have e2:(fun y=>if y=initN then some (Value.ref s.heap.objs.size) else N y) selfN=some (.ref x):=by show (if selfN=initN then _ else _)=_;refine rwl (if_neg (by decide +kernel)) ?_;exact hn
 have hx₂:s₂.heap.get? x=some (instObj C dx):=c₂.keep _ _ (fun q=>by have:=f.slot _ q;exact nomatch hx.symm.trans this) (x₁.keep _ _ (xx.keep _ _ hx))
 have hd₂:s₂.heap.get? dx=some emptyDict:=c₂.keep _ _ (fun q=>nd _ q rfl) (x₁.keep _ _ (xx.keep _ _ hd))
 refine execs2 (wpAny_If (wpAny_isTrue_Compare1 ?_ (by rfl)))
 refine bcall1 (fv:= .type "type") (fun a e=>by exact nomatch e) (by rfl) (f₂.glob k3 (H.ty _ f₂.on) ⟨rfl,f₂.name k2' e1 ?_⟩)
 refine call_type_of (Tx:= "list") ⟨_,hL₂,rfl⟩ rfl ?_
 refine f₂.glob k4 (H.li _ f₂.on) ?_
 refine wpAny_isNot_self (by rfl) (wpAny_truthy_bool ?_)
 refine rwl (if_neg (by decide)) ?_
 refine wpAny_execs_nil ?_
 refine execs2 (plainObj_wpAny_Assign_Attribute ?_ (by rfl))
 refine f₂.name k2' e1 (f₂.name k1 e2 (own_set HK (inK KX f₂.on) hx₂ hd₂ fun h' hs tk t' sb hD=> ?_))
 have c₃:Chg (·= dx) (fun Z=>False) s₂ { s₂ with heap:=h',toks:=t' }:=Chg.one t' sb
 have f₃:HF h₁ env sc _ s₀ { s₂ with heap:=h',toks:=t' }:=f₂.chg c₃ (fun a ha q=>nd a q ha) (fun a ha=>by cases ha;exact hdx)
 have hL₃:h'.get? s.heap.objs.size=some (lObj [] 0):=c₃.keep _ _ (fun q=>(hne _ _ (xx.keep _ _ hd) q.symm).elim) hL₂
 have hx₃:h'.get? x=some (instObj C dx):=c₃.keep _ _ (fun q=>by rw [q] at hx;exact nomatch hx.symm.trans hd) hx₂
 refine execs2 (wpAny_If (wpAny_isTrue_value (wpAny_Constant_bool (wpAny_truthy_bool ?_)) (by rfl)))
 refine rwl (if_pos rfl) ?_
 refine execs2 (for_empty rm (by rfl) (fun Q' hq=>f₃.name k2' e1 (hq _ _ (.list (by simp) hL₃ .nil) (Ext.refl _))) fun s₄ x₄=> ?_)
 refine wpAny_execs_nil (wpAny_execs_nil ?_)
 refine h s₄ hs tk s.heap.objs.size ?_ ⟨x₄.keep _ _ hx₃,x₄.keep _ _ hD⟩ (x₄.keep _ _ hL₃) ?_
 ·have d1:Chg (fun a=>s₀.heap.get? a=none\/a=dx) (fun Z=>False) s₀ s:=xx.chg
  have d2:Chg (fun a=>s₀.heap.get? a=none\/a=dx) (fun Z=>False) _ s₂:=c₂.mono (fun a ha=> .inl (f.slot a ha)) fun Z h=>h
  have d3:Chg (fun a=>s₀.heap.get? a=none\/a=dx) (fun Z=>False) s₂ _:=c₃.mono (fun a ha=> .inr ha) fun Z h=>h
  exact d1.trans (x₁.chg.trans (d2.trans (d3.trans x₄.chg)))
 ·exact xx.none hL₀
end
section
variable {prog:Program} {w:World} {A:Around} {E:Value->Shared->Prop} {s₀ s:Shared} {env:Env} {sc:Sc} {N:Str->Option Value} {h₁:Heap} {K:Frag} {C fI fV fA fG fM x dx L:Addr} {hs:Int} {tk:Tok} {c:Nat} {t:Tok} {b:Bool} {k:Nat}
structure InitF (h₁:Heap) (fI:Addr) (fd:FuncData) (body:List Stmt):Prop where
 fn:FnG h₁ fI fd body
 ok:InitOk fd.scope.names body
 bind : ∀ (M:Model) (A:Around) (Q:List (Str×Value)->Shared->Prop) (E:Value->Shared->Prop) (s:Shared) (u:Value),On h₁ s.heap->Q [(selfN,u),(initN,.none)] s->wpAny M A (bindArgs fd ⟨[u],[]⟩) Q E s
 ps:(okS fd.scope.names selfN&&okS fd.scope.names initN)=true
theorem headers_call {fd:FuncData} {body:List Stmt} (H:TopH h₁) (HK:HdK K C fI fV fA fG fM) (KX:K.In h₁) (IF:InitF h₁ fI fd body) (rm:Room A (k+2)) (hon:On h₁ s.heap) {R:Result->Shared->Prop}
  (h : ∀ s' x dx L hs tk,Ext s s'->s.heap.get? x=none->s.heap.get? dx=none->s.heap.get? L=none->TabI s'.heap C x dx L hs tk->s'.heap.get? L=some (lObj [] 0)->R (.ok (.ret (.ref x))) s') :
  codeAny (model prog w) A (.call (.ref C) ⟨[],[]⟩) R s:=by
 obtain ⟨hh,g,d,t,os⟩:=s
 have X:K.In hh:=inK KX hon
 refine make_core (makes_of X HK.mks) (looks_findIn X HK.fi) (fun self=>bind_fn X self HK.ti) (.inl rfl) ?_
 have rm':Room (A.under (.builtin "type.__call__" ⟨[.ref C],[]⟩)) (k+1):=⟨rm.hh,by have:=rm.dp;show A.depth+1+(k+1)<_;exact H93 this,by
  have:=rm.un
  have e:(A.under (.builtin "type.__call__" ⟨[.ref C],[]⟩)).units<=A.units+5:=by
   have e4:(Code.builtin "type.__call__" ⟨[.ref C],[]⟩).cUnits=1:=by kernel_rfl
   show A.units+(Code.builtin "type.__call__" ⟨[.ref C],[]⟩).cUnits<=_
   refine rwl e4 ?_;exact Nat.add_le_add (Nat.le_refl _) (Nat.le_of_ble_eq_true rfl)
  exact H95 e this⟩
 have x₁:Ext (⟨hh,g,d,t,os⟩:Shared) ⟨(hh.push emptyDict).push (instObj C hh.objs.size),g,d,t,os⟩:=Ext.heap t fun b o e=>Heap.get?_push_of_some _ (Heap.get?_push_of_some _ e)
 have n1:hh.get? (hh.objs.size+1)=none:=get?_lt (Nat.le_succ _)
 have n2:hh.get? hh.objs.size=none:=get?_lt (Nat.le_refl _)
 have hx:((hh.push emptyDict).push (instObj C hh.objs.size)).get? (hh.objs.size+1)=some (instObj C hh.objs.size):=by heap_get
 have hd:((hh.push emptyDict).push (instObj C hh.objs.size)).get? hh.objs.size=some emptyDict:=by heap_get
 have hon':On h₁ ((hh.push emptyDict).push (instObj C hh.objs.size)):=fun b o e=>x₁.keep b o (hon b o e)
 have ps:=IF.ps
 simp only [Bool.and_eq_true] at ps
 refine call_hf rm' (IF.fn.keeps hon') hon' (fun binds s₁=>binds=[(selfN,.ref (hh.objs.size+1)),(initN,.none)]/\s₁=⟨(hh.push emptyDict).push (instObj C hh.objs.size),g,d,t,os⟩) (fun Q E h=> ?_) (fun binds s₁ p=> ?_) fun binds s₁ s₂ env E p x f rm'' Z=> ?_
 ·exact IF.bind _ _ _ _ _ _ hon' (h _ _ ⟨rfl,rfl⟩)
 ·obtain ⟨rfl,rfl⟩:=p
  refine ⟨Ext.refl _,(by decide +kernel:[selfN,initN].Nodup),fun y hy=> ?_⟩
  simp only [List.mem_cons,List.not_mem_nil,or_false] at hy
  rcases hy with rfl|rfl
  ·exact ps.1
  ·exact ps.2
 ·obtain ⟨rfl,rfl⟩:=p
  refine init_body H HK KX IF.ok rm'' f (by rfl) (by rfl) hx hd x (hon.gone n2) fun s' hs tk L cc ti hL hL0=> ?_
  refine ⟨rfl,h s' _ _ L hs tk ?_ n1 n2 (x₁.none hL0) ti hL⟩
  refine (x₁.chg.trans (cc.mono (P':=fun a=>hh.get? a=none) (G':=fun Z=>False) (fun a ha=> ?_) fun Z h=>h)).ext (fun Z q=>q) fun Z q=>q.elim
  rcases ha with ha|rfl
  ·exact x₁.none ha
  ·exact n2
end
section
variable {prog:Program} {w:World} {A:Around} {E:Value->Shared->Prop} {s₀ s:Shared} {env:Env} {sc:Sc} {N:Str->Option Value} {h₁:Heap} {K:Frag} {C fI fV fA fG fM x dx L d:Addr} {hs:Int} {tk:Tok} {c c':Nat} {t t':Tok} {b:Bool} {k:Nat}
theorem mcallG {o:Expr} {ap pos:Pos} {name:Str} {args:List Expr} {Q:Value->Shared->Prop} (hb : ∀ t,attributeBase o name env t=t)
  (hform:methodCallForm (args.length+([]:List Keyword).length) (backTo pos (starEach args env)) (backToKw pos (keywordEach [] env))=true) (hline:(ap.endLine==pos.line)=true)
  (h:wpAny (model prog w) A (eval o env) (fun ov s₁=> ∀ pl,wpAny (model prog w) A (getMethod ov name pl) (fun r s₂=>wpAny (model prog w) A (callWith pos r.1 r.2 (backTo pos (starEach args env)) []) Q E s₂) E s₁) E s) :
  wpAny (model prog w) A (eval (.Call (.Attribute o name ap) args [] pos) env) Q E s:=by
 rw [arm_eval_Call];refine rwl (hb _) ?_
 refine wpAny_bind (wpAny_mono h (fun ov s₁ h₁=> ?_) fun Z Z e=>e)
 refine wpAny_bind (wpAny_standAt ?_)
 have hpos:methodCallPos true o env ap pos=pure pos:=by unfold methodCallPos;simp [hline]
 unfold methodCall
 refine rwl hform ?_
 refine wpAny_bind (wpAny_holding ?_)
 unfold calleeOf
 refine rwl (if_pos rfl) ?_
 refine wpAny_mono (h₁ _) (fun r s₂ h₂=> ?_) fun Z Z e=>e
 exact wpAny_bind (wpAny_of_eq hpos h₂)
theorem app_ok {l:Addr} {vs:List Value} {n:Nat} {v:Value} {Q:Value->Shared->Prop} (hl:s.heap.get? l=some (lObj vs n)) (hsz:vs.length<=1000)
  (h : ∀ h' n',Heap.SameBut l s.heap h'->h'.get? l=some (lObj (vs++[v]) n')->Q .none { s with heap:=h' }):wpAny (model prog w) A (call (.builtin "list.append") [.ref l,v]) Q E s:=by
 refine wpAny_list_append_plain ⟨n,hl⟩ (fun h' hp hs'=> ?_) (by simp [sizeLine_eq];exact Nat.le_trans hsz (Nat.le_of_ble_eq_true rfl))
 obtain ⟨n',hp⟩:=hp
 rw [show vs.toArray.push v=(vs++[v]).toArray by simp] at hp
 exact h h' n' hs' hp
noncomputable def paramsN:Str:=nm "_params"
theorem for_items {tg:Expr} {body:List Stmt} {np ap p pos:Pos} {Q:Flow->Shared->Prop} (rm:Room A k) (f:HF h₁ env sc N s₀ s) (hok:okN sc paramsN=true) (hN:N paramsN=some (.ref d)) (hd:s.heap.get? d=some emptyDict) (hdm:(d==sysModules)=false)
  (hline:(ap.endLine==p.line)=true) (q : ∀ s',Ext s s'->Q .next s'):wpAny (model prog w) A (exec (.For tg (.Call (.Attribute (.Name paramsN np) itemsN ap) [] [] p) body [] pos) env) Q E s:=by
 have hD : ∀ h:Heap,h.get? d=some emptyDict->h.DictAt (strKind prog w) d [] 0:=fun h e=>⟨_,_,e,⟨rfl,rfl,rfl⟩,rfl,fun e he=>by simp at he,.nil,.nil⟩
 refine wpAny_For ?_ (folded_no (by rfl) env)
 refine mcallG (fun t=>rfl) (by rfl) hline (f.name hok hN fun pl=> ?_)
 refine getMethod_builtin (T:= "dict") ⟨_,hd,rfl⟩ PySem.F.plainAttrs_dict PySem.F.slot_dict_items PySem.F.type_dict_items (fun a e=>by cases e;exact ⟨_,hd,rfl⟩) ?_
 refine callWith_of (P:=fun Z=>True) (by rfl) (fun h' Z=>⟨.machine,.inr (.inl rfl),keeper_mach fun a e=>by cases e⟩) ?_
 refine evalArgs_nil3 ⟨trivial,?_⟩
 refine call_meetsIn PySem.F.slot_dict_items ⟨_,hd,rfl⟩ PySem.F.entry_dict_items (PySem.F.args_dict_items_1 _) (meets_dict_items (strKind prog w) d hdm) ⟨⟨[],(ea24 (hD _ hd) fun o es h1 h2 h3 h4=>⟨o,es,0,h1,h2,h3,h4⟩)⟩,?_⟩
 have x₁:=Ext.push' s { cls:= .type "dict_items", data:= .fields #[.ref d] }
 have hv:(s.heap.push { cls:= .type "dict_items", data:= .fields #[.ref d] }).get? s.heap.objs.size=some { cls:= .type "dict_items", data:= .fields #[.ref d] }:=Heap.get?_push_size _ rfl
 refine wpAny_pyIter_items (knd:=strKind prog w) ⟨_,hv,rfl,rfl⟩ (hD _ (x₁.keep _ _ hd)) ?_
 refine codeAny_forLoop_any (fun Z s'=>s'=_) ?_ 1 rfl
 rintro n s' rfl
 refine wpAny_pyNext_items_end (knd:=strKind prog w) (i:=0) rm.hh (Heap.get?_push_size _ rfl) (hD _ (Heap.get?_push_of_some _ (x₁.keep _ _ hd))) (by rfl) fun h' hx=> ?_
 refine wpAny_execs_nil (q _ ?_)
 exact Ext.heap _ fun b o e=>hx b o (fun z=>by
  have h1:(s.heap.push { cls:= .type "dict_items", data:= .fields #[.ref d] }).get? b=some o:=x₁.keep _ _ e
  exact absurd (Heap.lt_size h1) (by refine rwl z ?_;exact Nat.lt_irrefl _)) (Heap.get?_push_of_some _ (x₁.keep _ _ e))
end
noncomputable def aNameN:Str:=nm "_name"
noncomputable def aValueN:Str:=nm "_value"
noncomputable def partsN:Str:=nm "parts"
noncomputable def appendN:Str:= "append"
noncomputable def joinN:Str:= "join"
inductive AddOk (sc:Sc):List Stmt->Prop
 | mk {z1 z2 z3 z4 z5 z6 z7 z8 z9 ap z10 z11 z12 p z13 z14 ap2 z15 pp2 z16 z17 z18 z19 ap3 pp3 z20 z21 z22 z23 ap4 z24 ap5 z25 z26 z27 pp5 z28 z29 ap6 z30 pp6 z31 z32 pp4 z33} (h1_:(ap.endLine==p.line)=true) (h2_:(ap2.endLine==pp2.line)=true) (h3_:(ap3.endLine==pp3.line)=true) (h4_:(ap4.endLine==pp4.line)=true) (h5_:(ap5.endLine==pp5.line)=true) (h6_:(ap6.endLine==pp6.line)=true) (h7_:okS sc partsN=true) (h8_:okS sc aValueN=true) (h9_:okN sc selfN=true) (h10_:okN sc aNameN=true) (h11_:okN sc paramsN=true):AddOk sc [.Assign [.Name partsN z1] (.List [] z2) z3,.If (.Compare (.Name aValueN z4) [.IsNot] [.Constant .none z5 z6] z7) [.Assign [.Name aValueN z8] (.Call (.Attribute (.Name selfN z9) convN ap) [.Name aValueN z10] [⟨some nameN,.Constant (.bool false) 0 z11,z12⟩] p) z13,.Expr (.Call (.Attribute (.Name partsN z14) appendN ap2) [.Name aValueN z15] [] pp2) z16] [] z17,.For z18 (.Call (.Attribute (.Name paramsN z19) itemsN ap3) [] [] pp3) z20 [] z21,.Expr (.Call (.Attribute (.Attribute (.Name selfN z22) headersN z23) appendN ap4) [.Tuple [.Call (.Attribute (.Name selfN z24) convN ap5) [.Name aNameN z25] [⟨some nameN,.Constant (.bool true) 0 z26,z27⟩] pp5,.Call (.Attribute (.Constant (.str (nm "; ")) z28 z29) joinN ap6) [.Name partsN z30] [] pp6] z31 z32] [] pp4) z33]
section
variable {prog:Program} {w:World} {A:Around} {E:Value->Shared->Prop} {s₀ s:Shared} {env:Env} {sc:Sc} {N:Str->Option Value} {h₁:Heap} {K:Frag} {C fI fV fA fG fM x dx L d:Addr} {hs:Int} {tk:Tok} {c c':Nat} {t t':Tok} {b:Bool} {k:Nat}
theorem name_append {y:Str} {yp ap p pos:Pos} {X:Expr} {l:Addr} {vs:List Value} {n:Nat} {v:Value} {Q:Flow->Shared->Prop} (f:HF h₁ env sc N s₀ s) (hy:okN sc y=true) (hN:N y=some (.ref l)) (hl:s.heap.get? l=some (lObj vs n)) (hsz:vs.length<=1000) (hst:notStar X=true) (hline:(ap.endLine==p.line)=true)
  (hX : ∀ Q':Value->Shared->Prop,(∀ s',Ext s s'->Q' v s')->wpAny (model prog w) A (eval X env) Q' E s)
  (h : ∀ s' n',Chg (·= l) (fun Z=>False) s s'->s'.heap.get? l=some (lObj (vs++[v]) n')->Q .next s') :
  wpAny (model prog w) A (exec (.Expr (.Call (.Attribute (.Name y yp) appendN ap) [X] [] p) pos) env) Q E s:=by
 refine rwl (PySem.exec_Expr env _ _ (not_inter f.es) (by rfl)) ?_
 refine wpAny_bind (wpAny_standAt (wpAny_bind ?_))
 refine mcallG (fun t=>rfl) (by refine rwl (starEach_cons hst) ?_;rfl) hline (f.name hy hN fun pl=> ?_)
 refine getMethod_list_append hl rfl rfl ?_
 refine callWith_of (P:=fun Z=>True) (by refine rwl (starEach_cons hst) ?_;rfl) (fun h' Z=>⟨.machine,.inr (.inl rfl),keeper_mach fun a q=>by exact nomatch q⟩) ?_
 refine rwl (starEach_cons hst) ?_
 refine evalArgs_plain (PySem.Calls.spliced_cons (hX _ fun s₁ x₁=>PySem.Calls.spliced_nil ⟨trivial,?_⟩))
 refine app_ok (x₁.keep _ _ hl) hsz fun h' n' sb hl'=>wpAny_pure ?_
 exact h _ n' (x₁.chg.trans (Chg.one s₁.toks sb)) hl'
set_option tactic.hygienic true in
theorem join_one (hc:c∈okChars):joinB (nm "; ") (.list [.str ⟨#[c]⟩])=some (.str ⟨#[c]⟩):=by
 have h : ∀ c∈okChars,(match joinB (nm "; ") (.list [.str ⟨#[c]⟩]) with|some (.str x)=>x==⟨#[c]⟩|_=>false)=true:=by decide +kernel
 have:=h c hc
 split at this
 ·rename_i x e;exact rwl e (rwl (beq_iff_eq.mp this) rfl)
 ·exact nomatch this
theorem addB_row {fdV:FuncData} {bV:List Stmt} (BB:Bas K h₁ C fI fV fA fG fM fdV bV) (rm:Room A (k+1)) {N₆:Str->Option Value} {s₆:Shared} {P:Addr} {n5:Nat} {z1 z2 z3 z4 z5 z6 z7 z8 z9 za ap4 ap5 ap6 pp4 pp5 pp6:Pos} {kd:Nat} {ke:Nat} (f₆:HF h₁ env sc N₆ s₀ s₆) (hself:N₆ selfN=some (.ref x)) (hname:N₆ aNameN=some (.str ⟨#[c]⟩ t)) (hparts:N₆ partsN=some (.ref P))
  (hc:c∈okChars) (hc':c'∈okChars) (hI:TabI s₆.heap C x dx L hs tk) (hP₆:s₆.heap.get? P=some (lObj [.str ⟨#[c']⟩ t'] n5)) {vs:List Value} {n:Nat} (hL₆:s₆.heap.get? L=some (lObj vs n)) (hsz:vs.length<=100) (kP:okN sc partsN=true) (k3:okN sc selfN=true) (k4:okN sc aNameN=true)
  (l4:(ap4.endLine==pp4.line)=true) (l5:(ap5.endLine==pp5.line)=true) (l6:(ap6.endLine==pp6.line)=true) {Q:Flow->Shared->Prop}
  (h : ∀ s' p n' t'' m,Chg (·= L) (fun Z=>False) s₆ s'->s'.heap.get? L=some (lObj (vs++[.ref p]) n')->s'.heap.get? p=some (tObj [.str ⟨#[c]⟩ t,.str ⟨#[c']⟩ t''] m)->s₆.heap.get? p=none->Q .next s') :
  wpAny (model prog w) A (exec (.Expr (.Call (.Attribute (.Attribute (.Name selfN z1) headersN z2) appendN ap4) [.Tuple [.Call (.Attribute (.Name selfN z3) convN ap5) [.Name aNameN z4] [⟨some nameN,.Constant (.bool true) 0 z5,z6⟩] pp5,.Call (.Attribute (.Constant (.str (nm "; ")) kd z7) joinN ap6) [.Name partsN z8] [] pp6] ke z9] [] pp4) za) env) Q E s₆:=by
 refine rwl (PySem.exec_Expr env _ _ (not_inter f₆.es) (by rfl)) ?_
 refine wpAny_bind (wpAny_standAt (wpAny_bind ?_))
 refine mcallG (fun t=>rfl) (by rfl) l4 (Attribute_Name_ (f₆.name k3 hself (get_headers BB.hk (inK BB.k f₆.on) hI fun pl=> ?_)))
 have x₇:Ext s₆ { s₆ with toks:=s₆.toks+1 }:=Ext.toks s₆ _
 refine getMethod_list_append (s:={ s₆ with toks:=s₆.toks+1 }) hL₆ rfl rfl ?_
 refine callWith_of (P:=fun Z=>True) (by rfl) (fun h' Z=>⟨.machine,.inr (.inl rfl),keeper_mach fun a q=>by exact nomatch q⟩) ?_
 refine rwl (starEach_cons (by rfl)) ?_
 refine evalArgs_plain (PySem.Calls.spliced_cons ?_)
 refine wpAny_Tuple (k:=0) ?_
 refine rwl (starEach_cons (by rfl)) (rwl (starEach_cons (by rfl)) ?_)
 refine PySem.Calls.spliced_cons ?_
 refine self_conv BB rm (f₆.ext x₇) hself k3 hc (Pt:=(·= t)) (by rfl) l5 (hI.keeps x₇.keep) (fun Q' hq=>(f₆.ext x₇).name k4 hname (hq _ _ rfl (Ext.refl _))) fun s₈ t₈ et x₈=> ?_
 subst t₈
 have f₈:=(f₆.ext x₇).ext x₈
 refine PySem.Calls.spliced_cons ?_
 have y₀:=Ext.toks s₈ (s₈.toks+1)
 have hP₈:=y₀.keep _ _ (x₈.keep _ _ (x₇.keep _ _ hP₆))
 refine wpAny_Call_method_lateS (attrBase_plain rfl) (by rfl) l6 (wpAny_Constant_str ?_)
 refine ⟨"str", _,PySem.F.plainAttrs_str,PySem.F.slot_str_join,PySem.F.type_str_join,typeIs_str _ _ _,(fun Z e=>nomatch e),?_⟩
 refine callWith_of (P:=fun Z=>True) (by rfl) (fun h' Z=>⟨.machine,.inr (.inl rfl),keeper_mach (fun Z e=>nomatch e)⟩) ?_
 refine rwl (starEach_cons (by rfl)) ?_
 refine evalArgs_plain (PySem.Calls.spliced_cons ((f₈.ext y₀).name kP hparts (PySem.Calls.spliced_nil ⟨trivial,?_⟩)))
 refine b_join (W:=[]) (.inl (.list (n:=n5) (by simp) hP₈ (.cons (.str _ _ ?_) .nil))) (by decide +kernel) (join_one hc') fun v₉ s₉ x₉ r₉=> ?_
 ·have : ∀ c∈okChars,strA ⟨#[c]⟩=true:=by decide +kernel
  exact this _ hc'
 have x10:Ext s₆ s₉:=x₇.trans (x₈.trans (y₀.trans x₉))
 apply r₉.str_el;intro t₉ Z
 refine PySem.Calls.spliced_nil ⟨by simp [sizeLine_eq],?_⟩
 have x11:=Ext.push' s₉ { cls:= .type "tuple", data:= .seq [Value.str ⟨#[c]⟩ t,Value.str ⟨#[c']⟩ t₉].toArray }
 have hp:(s₉.heap.push { cls:= .type "tuple", data:= .seq [Value.str ⟨#[c]⟩ t,Value.str ⟨#[c']⟩ t₉].toArray }).get? s₉.heap.objs.size=some (tObj [Value.str ⟨#[c]⟩ t,Value.str ⟨#[c']⟩ t₉] 0):=Heap.get?_push_size _ rfl
 have hp6:s₆.heap.get? s₉.heap.objs.size=none:=x10.none (get?_lt (Nat.le_refl _))
 refine PySem.Calls.spliced_nil ⟨trivial,?_⟩
 refine app_ok (x11.keep _ _ (x10.keep _ _ hL₆)) (Nat.le_trans hsz (by decide)) fun h' n' sb hl'=>wpAny_pure ?_
 have c12:=Chg.one (s:=⟨_,s₉.gens,s₉.drawn,s₉.toks,s₉.os⟩) s₉.toks sb
 exact h _ s₉.heap.objs.size n' t₉ 0 (x10.chg.trans (x11.chg.trans c12)) hl' (c12.keep _ _ (fun q=>by rw [q] at hp6;exact nomatch hL₆.symm.trans hp6) hp) hp6
theorem add_body {fdV:FuncData} {bV:List Stmt} (BB:Bas K h₁ C fI fV fA fG fM fdV bV) {body:List Stmt} (hok:AddOk sc body) (rm:Room A (k+1)) (f:HF h₁ env sc N s₀ s) (hself:N selfN=some (.ref x)) (hname:N aNameN=some (.str ⟨#[c]⟩ t)) (hval:N aValueN=some (.str ⟨#[c']⟩ t')) (hpar:N paramsN=some (.ref d))
  (hc:c∈okChars) (hc':c'∈okChars) (hd:s.heap.get? d=some emptyDict) (hdm:(d==sysModules)=false) (hdS : ¬ Slots env d) (xx:Ext s₀ s) (I:TabI s₀.heap C x dx L hs tk) {vs:List Value} {n:Nat} (hL:s₀.heap.get? L=some (lObj vs n)) (hsz:vs.length<=100) (hL1:h₁.get? L=none) {Q:Flow->Shared->Prop}
  (h : ∀ s' p n' t'' m,Chg (fun a=>s₀.heap.get? a=none\/a=L) (fun Z=>False) s₀ s'->TabI s'.heap C x dx L hs tk->s'.heap.get? L=some (lObj (vs++[.ref p]) n')->s'.heap.get? p=some (tObj [.str ⟨#[c]⟩ t,.str ⟨#[c']⟩ t''] m)->s₀.heap.get? p=none->Q .next s') :
  wpAny (model prog w) A (execs body env) Q E s:=by
 cases hok with|mk l1 l2 l3 l4 l5 l6 k1 k2 k3 k4 k5=>
 have kP:=holds_ok k1
 have kV:=holds_ok k2
 have nL : ∀ a o,s₀.heap.get? a=some o->o.cls ≠ .type "list" -> a≠L:=fun a o e hcl q=>by
  rw [q,hL] at e
  have:=congrArg (Option.map Obj.cls) e
  simp at this
  exact hcl this.symm
 have nS : ∀ a o,s₀.heap.get? a=some o -> ¬ Slots env a:=fun a o e q=>by rw [f.slot a q] at e;exact nnE e
 have live : ∀ {s':Shared},Chg (fun a=>s₀.heap.get? a=none\/a=L) (fun Z=>False) s₀ s'->TabI s'.heap C x dx L hs tk:=fun cc=>
  ⟨cc.keep _ _ (fun q=>q.elim (fun q=>nomatch I.inst.symm.trans q) fun q=>nL _ _ I.inst (fun z=>by exact nomatch z) q) I.inst,
   cc.keep _ _ (fun q=>q.elim (fun q=>nomatch I.dict.symm.trans q) fun q=>nL _ _ I.dict (fun z=>by injection z with z;exact absurd z (by decide)) q) I.dict⟩
 have c0:Chg (fun a=>s₀.heap.get? a=none) (fun Z=>False) s₀ s:=xx.chg
 have wk : ∀ {s':Shared},Chg (fun a=>s₀.heap.get? a=none) (fun Z=>False) s₀ s'->Chg (fun a=>s₀.heap.get? a=none\/a=L) (fun Z=>False) s₀ s':=fun cc=>cc.mono (fun a ha=> .inl ha) fun Z h=>h
 have sl : ∀ {s' s'':Shared},Chg (Slots env) (fun Z=>False) s' s''->Chg (fun a=>s₀.heap.get? a=none) (fun Z=>False) s' s'':=fun cc=>cc.mono (fun a ha=>f.slot a ha) fun Z h=>h
 refine execs2 (wpAny_Assign_Name (wpAny_List (PySem.Calls.spliced_nil ⟨by decide,?_⟩)) (by rfl))
 have x₁:Ext s _:=Ext.push' s { cls:= .type "list", data:= .seq ([]:List Value).toArray }
 have hP₀:s.heap.get? s.heap.objs.size=none:=get?_lt (Nat.le_refl _)
 have hP₁:(s.heap.push { cls:= .type "list", data:= .seq ([]:List Value).toArray }).get? s.heap.objs.size=some (lObj [] 0):=Heap.get?_push_size _ rfl
 generalize hPe:s.heap.objs.size=P at hP₀ hP₁ ⊢
 have hPs : ¬ Slots env P:=fun q=>slots_live f.fr q hP₀
 have hP0:s₀.heap.get? P=none:=xx.none hP₀
 have hdP:d≠P:=fun q=>by rw [q,hP₀] at hd;exact nnE hd
 refine (f.ext x₁).store k1 fun s₂ f₂ c₂=> ?_
 have hP₂:=c₂.keep _ _ hPs hP₁
 have hd₂:=c₂.keep _ _ hdS (x₁.keep _ _ hd)
 have c2:=c0.trans (x₁.chg.trans (sl c₂))
 have e2 : ∀ y,y≠partsN->(if y=partsN then some (Value.ref P) else N y)=N y:=fun y hy=>if_neg hy
 refine execs2 (wpAny_If (wpAny_isTrue_Compare1 (f₂.name kV ((e2 _ (by decide +kernel)).trans hval) (wpAny_Constant_none (wpAny_isNot_other (by rfl) (fun z=>by exact nomatch z) (wpAny_truthy_bool ?_)))) (by rfl)))
 refine rwl (if_pos rfl) ?_
 refine execs2 (wpAny_Assign_Name ?_ (by rfl))
 refine self_conv BB rm f₂ ((e2 _ (by decide +kernel)).trans hself) k3 hc' (Pt:=(·= t')) (by rfl) l1 (live (wk c2)) (fun Q' hq=>f₂.name kV ((e2 _ (by decide +kernel)).trans hval) (hq _ _ rfl (Ext.refl _))) fun s₃ t₃ et x₃=> ?_
 subst t₃
 refine (f₂.ext x₃).store k2 fun s₄ f₄ c₄=> ?_
 have hP₄:=c₄.keep _ _ hPs (x₃.keep _ _ hP₂)
 have hd₄:=c₄.keep _ _ hdS (x₃.keep _ _ hd₂)
 have c4:=c2.trans (x₃.chg.trans (sl c₄))
 refine execs2 (name_append f₄ kP (l:=P) (vs:=[]) (v:= .str ⟨#[c']⟩ t') (by refine rwl (if_neg (by decide +kernel)) ?_;exact if_pos rfl) hP₄ (by decide) (by rfl) l2 (fun Q' hq=>f₄.name kV (if_pos rfl) (hq _ (Ext.refl _))) fun s₅ n5 c₅ hP₅=> ?_)
 have f₅:=f₄.chg c₅ (fun a ha=>by cases ha;exact hPs) (fun a ha=>by cases ha;exact f.base _ hP0)
 have hd₅:=c₅.keep _ _ hdP hd₄
 have c5:=c4.trans (c₅.mono (fun a ha=>by cases ha;exact hP0) fun Z h=>h)
 refine wpAny_execs_nil ?_
 refine execs2 (for_items rm f₅ k5 (by refine rwl (if_neg (by decide +kernel)) (rwl (if_neg (by decide +kernel)) ?_);exact hpar) hd₅ hdm l3 fun s₆ x₆=> ?_)
 have f₆:=f₅.ext x₆
 have hP₆:=x₆.keep _ _ hP₅
 have c6:=c5.trans x₆.chg
 refine execs2 (addB_row BB rm f₆ (by refine rwl (if_neg (by decide +kernel)) (rwl (if_neg (by decide +kernel)) ?_);exact hself) (by refine rwl (if_neg (by decide +kernel)) (rwl (if_neg (by decide +kernel)) ?_);exact hname) (by refine rwl (if_neg (by decide +kernel)) ?_;exact if_pos rfl) hc hc' (live (wk c6)) hP₆ (c6.keep _ _ (fun q=>nomatch hL.symm.trans q) hL) hsz kP k3 k4 l4 l5 l6 fun s₉ p n' t₉ m cL hl' hp hp6=> ?_)
 have cc:=(wk c6).trans (cL.mono (P':=fun a=>s₀.heap.get? a=none\/a=L) (G':=fun Z=>False) (fun a ha=> .inr ha) fun Z h=>h)
 refine wpAny_execs_nil (h _ p n' t₉ m cc (live cc) hl' hp ?_)
 rcases e:s₀.heap.get? p with _|o
 ·rfl
 ·exact nomatch hp6.symm.trans (c6.keep _ _ (fun q=>nomatch e.symm.trans q) e)
end
section
variable {prog:Program} {w:World} {A:Around} {E:Value->Shared->Prop} {s₀ s:Shared} {env:Env} {sc:Sc} {N:Str->Option Value} {h₁:Heap} {K:Frag} {C fI fV fA fG fM x dx L d:Addr} {hs:Int} {tk:Tok} {c c':Nat} {t t':Tok} {b:Bool} {k:Nat}
structure AddF (h₁:Heap) (fA:Addr) (fd:FuncData) (body:List Stmt):Prop where
 fn:FnG h₁ fA fd body
 ok:AddOk fd.scope.names body
 bind : ∀ (M:Model) (A:Around) (Q:List (Str×Value)->Shared->Prop) (E:Value->Shared->Prop) (s:Shared) (u n v:Value),Q [(selfN,u),(aNameN,n),(aValueN,v),(paramsN,.ref s.heap.objs.size)] { s with heap:=s.heap.push emptyDict }->wpAny M A (bindArgs fd ⟨[u,n,v],[]⟩) Q E s
 ps:(okS fd.scope.names selfN&&okS fd.scope.names aNameN&&okS fd.scope.names aValueN&&okS fd.scope.names paramsN)=true
theorem add_call {fdV fd:FuncData} {bV body:List Stmt} (BB:Bas K h₁ C fI fV fA fG fM fdV bV) (AF:AddF h₁ fA fd body) (rm:Room A (k+2)) (hon:On h₁ s.heap) (h1 : ∃ a o,sysModules<=a/\h₁.get? a=some o) (hc:c∈okChars) (hc':c'∈okChars) (I:TabI s.heap C x dx L hs tk) {vs:List Value} {n:Nat} (hL:s.heap.get? L=some (lObj vs n)) (hsz:vs.length<=100) (hL1:h₁.get? L=none) {R:Result->Shared->Prop}
  (h : ∀ s' p n' t'' m,Chg (fun a=>s.heap.get? a=none\/a=L) (fun Z=>False) s s'->TabI s'.heap C x dx L hs tk->s'.heap.get? L=some (lObj (vs++[.ref p]) n')->s'.heap.get? p=some (tObj [.str ⟨#[c]⟩ t,.str ⟨#[c']⟩ t''] m)->s.heap.get? p=none->R (.ok (.ret .none)) s') :
  codeAny (model prog w) A (.call (.ref fA) ⟨[.ref x,.str ⟨#[c]⟩ t,.str ⟨#[c']⟩ t'],[]⟩) R s:=by
 have ps:=AF.ps
 simp only [Bool.and_eq_true] at ps
 have y:=Ext.push' s emptyDict
 have hd:(s.heap.push emptyDict).get? s.heap.objs.size=some emptyDict:=Heap.get?_push_size _ rfl
 have hd0:s.heap.get? s.heap.objs.size=none:=get?_lt (Nat.le_refl _)
 refine call_hf rm (AF.fn.keeps hon) hon (fun binds s₁=>binds=[(selfN,.ref x),(aNameN,.str ⟨#[c]⟩ t),(aValueN,.str ⟨#[c']⟩ t'),(paramsN,.ref s.heap.objs.size)]/\s₁={ s with heap:=s.heap.push emptyDict }) (fun Q E h=> ?_) (fun binds s₁ p=> ?_) fun binds s₁ s₂ env E p z f rm' hsl=> ?_
 ·exact AF.bind _ _ _ _ _ _ _ _ (h _ _ ⟨rfl,rfl⟩)
 ·obtain ⟨rfl,rfl⟩:=p
  refine ⟨y,(by decide +kernel:[selfN,aNameN,aValueN,paramsN].Nodup),fun y hy=> ?_⟩
  simp only [List.mem_cons,List.not_mem_nil,or_false] at hy
  rcases hy with rfl|rfl|rfl|rfl
  ·exact ps.1.1.1
  ·exact ps.1.1.2
  ·exact ps.1.2
  ·exact ps.2
 ·obtain ⟨rfl,rfl⟩:=p
  refine add_body BB AF.ok rm' f (by rfl) (by rfl) (by rfl) (by rfl) hc hc' (z.keep _ _ hd) ?_ (fun q=> ?_) (y.trans z) I hL hsz hL1 fun s' p n' t'' m cc ti hl hp hp0=>h s' p n' t'' m cc ti hl hp hp0
  ·refine ea22 h1 fun a o hle ho=> ?_
   have:=Heap.lt_size (hon _ _ ho)
   rw [beq_eq_false_iff_ne]
   exact Nat.ne_of_gt (Nat.lt_of_le_of_lt hle this)
  ·have:=hsl _ q
   rw [hd] at this;cases this
end
section
variable {prog:Program} {w:World} {T:Heap->Prop} {V:Value->Prop} {F:Str->Option Addr} {Φ B:Fns} {k:Nat}
theorem comp_core2 (C:Ctx prog w T V F Φ B k) {elt:ME} {cs:MEs} {tg:Tg} (hs:SE prog w T V Φ B k elt) (ha:SA prog w T V Φ B k cs)
  {sc:Sc} {x t i:Expr} {fs:List Expr} {scope:Scope} {pos p:Pos} {A:Around} {env:Env} {W:List Addr} {ρ:Loc} {s:Shared} {xs out:List D} {use:Option (Value->Sem Unit)} {Q:Value->Shared->Prop} {E:Value->Shared->Prop}
  (htg:tgOk tg t=true) (hok:scOk sc (tgNames tg) scope.names=true) (hkind:scope.kind = .function) (hit:itOk i=true) (hmc:mtL cs scope.names fs=true) (hme:mt elt scope.names x=true) (rm:Room A k) (st:St T V W env sc ρ s)
  (hsrc : ∀ Q':Value->Shared->Prop,(∀ I s' (St:List Addr->Nat->Shared->Prop),Ext s s'->s.heap.get? I=none->(∃ o,s'.heap.get? I=some o)->(∀ T k,ItF prog w T k I xs (·= I) (fun Z=>False) St)->(∀ W' s'',(∀ a∈W',a∈W\/s'.heap.get? a=none)->Ext s' s''->St W' 0 s'')->Q' (.ref I) s') ->
   wpAny (model prog w) A (eval i env) (fun x s₁=>wpAny (model prog w) A (pyIter x) Q' E s₁) E s)
  (hlen:xs.length<=szL) (hrun:compRun (fun x=>(bindT tg x (hide (tgNames tg) ρ)).bind fun ρ'=>(evA Φ B cs ρ').bind fun ok=>if ok then (ev Φ B elt ρ').map some else some none) xs=some out)
  (h : ∀ D₀ C₀ s' ys n,Ext s s'->s.heap.get? D₀=none->s.heap.get? C₀=none->C₀≠D₀->s'.heap.get? D₀=some (lObj ys n)->RepL W s'.heap ys out->RepL (D₀::W) s'.heap ys out->(∃ m,s'.heap.Ns C₀ m) ->
   compPost (model prog w) A E use Q (.ref D₀) C₀ (.ok .next) s') :
  wpAny (model prog w) A (comprehension (.ListComp x [⟨t,i,fs,0⟩] scope pos) scope env p (newList []) false (eval i env) use) Q E s:=by
 refine ea02 (scOk_names hok) fun nm1 nm2=> ?_
 refine wpAny_comprehension_free (use:=use) rfl (folded_no hit env) (scOk_closure st.es hok) hkind nm1 ?_
 refine hsrc _ fun I s₂ St' x₂ hI hlt hItF hstF=> ?_
 have st₂:=st.ext C.top x₂
 refine comp_lay C (run:=fun acc cenv s₄=>codeAny (model prog w) A (.compStart (.ListComp x [⟨t,i,fs,0⟩] scope pos) 0 (.ref I) acc cenv) (compPost (model prog w) A E use Q acc cenv.locals) s₄) (Q:=fun Z Z=>True) st₂ hok hkind fun D₀ cenv s₄ L=> ?_
 have hIt':=(hItF T k).it A (D₀::W) rm
 have hst : ∀ s'',Ext s₂ s''->St' (D₀::W) 0 s'':=fun s'' x=>hstF (D₀::W) s'' (fun a ha=>by
  rcases List.mem_cons.mp ha with rfl|ha
  ·exact .inr L.new
  ·exact .inl ha) x
 have Iin:s₂.heap.get? I=none->False:=fun q=>by
  obtain ⟨o,ho⟩:=hlt
  exact nomatch ho.symm.trans q
 have loop:codeAny (model prog w) A (.compLoop (.ListComp x [⟨t,i,fs,0⟩] scope pos) 0 (.ref I) (.ref D₀) cenv) (compPost (model prog w) A E use Q (.ref D₀) cenv.locals) s₄:=by
  have hIs:s.heap.get? I=none:=hI
  refine comp_loop C rm rfl rfl rfl rfl (turn1 x t i fs scope pos (.ref I) (.ref D₀) cenv) hIt' hs ha htg hme hmc nm2 (fun y hy=>by exact rwl (lk_hide _ _ _) (rwl (if_pos hy) rfl)) (hide_no _ _)
   (P₀:=fun a=>s.heap.get? a=none) (s₁:=s) (out:=[]) (rest:=out) List.mem_cons_self (x₂.none L.new) (fun a ha=>by cases ha;exact hIs) (fun y hy=>x₂.none (L.slots y hy)) (fun a ha hs=> ?_) (fun a ha hs=> ?_) (fun s' c=>C.top.mono _ _ st.tp fun b o e=>c.keep b o (fun q=>by exact nomatch q.symm.trans e) e)
   (by unfold szL at hlen;simp;exact Nat.le_trans hlen (Nat.le_of_ble_eq_true rfl)) ⟨(x₂.trans L.ext).chg,L.st.fr,L.st,[],0,L.acc,.nil⟩ (hst s₄ L.ext) hrun fun s' l=> ?_
  ·cases ha
   rcases L.cells _ hs with q|⟨y,q⟩
   ·exact Iin q
   ·refine ea22 (st.fr.cells y _ q) fun v o ho hd=> ?_
    exact nomatch hIs.symm.trans ho
  ·cases hs
   rcases List.mem_cons.mp ha with rfl|ha
   ·exact Iin L.new
   ·refine ea21 (st.sh _ ha) fun vs n e=> ?_;exact nomatch hIs.symm.trans e
  ·refine ea22 l.acc fun ys n hacc hys=> ?_
   exact h D₀ cenv.locals s' ys n (l.chg.ext (fun Z q=>q) fun Z q=>q.elim) (x₂.none L.new) (x₂.none L.loc) L.apart hacc (hys.sub fun a ha=>List.mem_cons_of_mem _ ha) hys l.fr.ns
 exact codeAny_compStart_list loop (hIt'.self 0 _ _ _ (hst s₄ L.ext) loop)
end
noncomputable def kvN:Str:=nm "kv"
noncomputable def lowerN:Str:=nm "lower"
noncomputable def mLower:ME:= .met lowerN (.var nameN)
noncomputable def mConds:MEs:=mes [.cmp .Eq (.met lowerN (.idx (.var kvN) (ci 0))) (.var nameN)]
noncomputable def mElt:ME:= .idx (.var kvN) (ci 1)
theorem idx2_0 (a b:D):idxD (.tuple [a,b]) (.int 0)=some a:=by rfl
theorem idx2_1 (a b:D):idxD (.tuple [a,b]) (.int 1)=some b:=by rfl
theorem row_ev {Φ B:Fns} {a v la lx:Str} (hl:metD lowerN (.str a)=some (.str la)) :
  (bindT (.n kvN) (.tuple [.str a,.str v]) (hide (tgNames (.n kvN)) [(nameN,.d (.str lx))])).bind (fun ρ'=>(evA Φ B mConds ρ').bind fun ok=>if ok then (ev Φ B mElt ρ').map some else some none)=some (if la==lx then some (.str v) else none):=by
 have e1:bindT (.n kvN) (.tuple [.str a,.str v]) (hide (tgNames (.n kvN)) [(nameN,.d (.str lx))])=some [(nameN,.d (.str lx)),(kvN,.d (.tuple [.str a,.str v]))]:=by rfl
 refine rwl e1 (rwl (Option.bind_some _ _) ?_)
 have k1:lk [(nameN,Bd.d (.str lx)),(kvN,.d (.tuple [.str a,.str v]))] kvN = .d (.tuple [.str a,.str v]):=by rfl
 have k2:lk [(nameN,Bd.d (.str lx)),(kvN,.d (.tuple [.str a,.str v]))] nameN = .d (.str lx):=by rfl
 have e2:evA Φ B mConds [(nameN,.d (.str lx)),(kvN,.d (.tuple [.str a,.str v]))]=some (la==lx):=by
  have a1:ev Φ B (.idx (.var kvN) (ci 0)) _=some (.str a):=show ((ev Φ B (.var kvN) _).bind fun x=>idxD x (.int 0))=_ from bindI (evv k1) (idx2_0 _ _)
  have a3:ev Φ B (.cmp .Eq (.met lowerN (.idx (.var kvN) (ci 0))) (.var nameN)) _=some (.bool (la==lx)):=bindI (bindI a1 hl) (bindI (evv k2) (mapI ((cEq _ _).trans (if_pos (Nat.le_of_ble_eq_true rfl)))))
  exact bindI (bindI a3 rfl) (by rcases la==lx with _|_<;>rfl)
 refine rwl e2 (rwl (Option.bind_some _ _) ?_)
 refine rwl (show ev Φ B mElt _=some (.str v) from show ((ev Φ B (.var kvN) _).bind fun x=>idxD x (.int 1))=_ from bindI (evv k1) (idx2_1 _ _)) ?_
 rcases la==lx with _|_<;>rfl
set_option tactic.hygienic true in
theorem okStr_of {x:Str} (h:okStr x=true) : ∃ c,x=⟨#[c]⟩/\c∈okChars:=by
 unfold okStr at h
 split at h
 ·rename_i c e
  refine ⟨c,?_,by simpa using h⟩
  obtain ⟨⟨l⟩⟩:=x
  simp only at e
  exact rwl e rfl
 ·exact nomatch h
theorem low_ok {x:Str} (h:okStr x=true):metD lowerN (.str x)=some (.str (Txt.lower x))/\okStr (Txt.lower x)=true:=by
 obtain ⟨c,rfl,hc⟩:=okStr_of h
 have h : ∀ c∈okChars,(match metD lowerN (.str ⟨#[c]⟩) with|some (.str y)=>y==Txt.lower ⟨#[c]⟩&&okStr y|_=>false)=true:=by decide +kernel
 have:=h c hc
 split at this
 ·rename_i y e
  simp only [Bool.and_eq_true,beq_iff_eq] at this
  exact ⟨by exact rwl e (rwl this.1 rfl),by refine lwr this.1 ?_;exact this.2⟩
 ·exact nomatch this
theorem tab_run {Φ B:Fns} {lx:Str} : ∀ {t:Tab},tabOk t=true->compRun (fun x=>(bindT (.n kvN) x (hide (tgNames (.n kvN)) [(nameN,.d (.str lx))])).bind fun ρ'=>(evA Φ B mConds ρ').bind fun ok=>if ok then (ev Φ B mElt ρ').map some else some none)
   (t.map fun p=> .tuple [.str p.1,.str p.2])=some ((t.filter fun p=>Txt.lower p.1==lx).map fun p=> .str p.2)
 | [],_=>rfl
 | p::r,h=>by
  unfold tabOk at h
  rw [List.all_cons,Bool.and_eq_true] at h
  refine ea02 h fun hp hr=> ?_
  rw [Bool.and_eq_true] at hp
  refine rwl List.map_cons ?_
  unfold compRun
  simp only [row_ev (Φ:=Φ) (B:=B) (lx:=lx) (v:=p.2) (low_ok hp.1).1]
  by_cases q:(Txt.lower p.1==lx)=true
  ·refine rwl (if_pos q) (rwl (List.filter_cons_of_pos (by exact q)) ?_)
   simp only [tab_run (Φ:=Φ) (B:=B) (lx:=lx) hr,Option.map_some,List.map_cons]
  ·refine rwl (if_neg q) (rwl (List.filter_cons_of_neg (by exact q)) ?_)
   simp only [tab_run (Φ:=Φ) (B:=B) (lx:=lx) hr]
theorem reps_any {h:Heap} {vs:List Value} {ds:List D} (W:List Addr) (r:RepL [] h vs ds) (hd : ∀ d∈ds,∃ x,d = .str x):RepL W h vs ds:=by
 induction vs generalizing ds with
 | nil=>cases r;exact .nil
 | cons v vs ih=>
  cases r with
  | cons a r=>
   refine ea11 (hd _ List.mem_cons_self) fun x Z1=> ?_;subst Z1
   refine .cons ?_ (ih r fun d hm=>hd d (List.mem_cons_of_mem _ hm))
   cases a with
   | str x t ha=>exact .str x t ha
theorem reps_rows {h:Heap} {vs:List Value} {ds:List D} {W:List Addr} (hW:Shut W h) (r:RepL [] h vs ds) (hd : ∀ d∈ds,∃ x y,d = .tuple [.str x,.str y]):RepL W h vs ds:=by
 induction vs generalizing ds with
 | nil=>cases r;exact .nil
 | cons v vs ih=>
  cases r with
  | cons a r=>
   refine ea21 (hd _ List.mem_cons_self) fun x y Z2=> ?_;subst Z2
   refine .cons ?_ (ih r fun d hm=>hd d (List.mem_cons_of_mem _ hm))
   cases a with
   | tup ha e rr=>
    refine .tup (fun hm=> ?_) e (reps_any W rr fun d hd=> ?_)
    ·refine ea21 (hW _ hm) fun us m e'=> ?_
     rw [e] at e'
     have:=congrArg (Option.map Obj.cls) e'
     simp at this
    ·simp only [List.mem_cons,List.not_mem_nil,or_false] at hd
     rcases hd with rfl|rfl
     ·exact ⟨_,rfl⟩
     ·exact ⟨_,rfl⟩
inductive GetOk (sc:Sc):List Stmt->Prop
 | mk {z1 z2 ap X z3 z4 p z5 elt tg z6 z7 conds scope z8 z9} (h1_:notStar X=true) (h2_:(ap.endLine==p.line)=true) (h3_:mt mLower sc X=true) (h4_:tgOk (.n kvN) tg=true) (h5_:scOk sc [kvN] scope.names=true) (h6_:(scope.kind == .function)=true) (h7_:mtL mConds scope.names conds=true) (h8_:mt mElt scope.names elt=true) (h9_:okS sc nameN=true) (h10_:okN sc selfN=true):GetOk sc [.Assign [.Name nameN z1] (.Call (.Attribute (.Name selfN z2) convN ap) [X] [⟨some nameN,.Constant (.bool true) 0 z3,z4⟩] p) z5,.Return (some (.ListComp elt [⟨tg,.Attribute (.Name selfN z6) headersN z7,conds,0⟩] scope z8)) z9]
inductive ItemsOk (sc:Sc):List Stmt->Prop
 | mk {z1 z2 z3 z4 z5} (h1_:okN sc selfN=true):ItemsOk sc [.Return (some (.Subscript (.Attribute (.Name selfN z1) headersN z2) (.Slice none none none z3) z4)) z5]
structure TabT (h:Heap) (C x dx L:Addr) (hs:Int) (tk:Tok) (vs:List Value) (n:Nat) (tb:Tab):Prop where
 i:TabI h C x dx L hs tk
 l:h.get? L=some (lObj vs n)
 r:RepL [] h vs (tb.map fun p=> .tuple [.str p.1,.str p.2])
theorem TabT.keeps {h h':Heap} {C x dx L:Addr} {hs:Int} {tk:Tok} {vs:List Value} {n:Nat} {tb:Tab} (t:TabT h C x dx L hs tk vs n tb) (hk : ∀ b o,h.get? b=some o->h'.get? b=some o):TabT h' C x dx L hs tk vs n tb:=⟨t.i.keeps hk,hk _ _ t.l,t.r.keeps hk⟩
section
variable {prog:Program} {w:World} {A:Around} {E:Value->Shared->Prop} {s₀ s:Shared} {env:Env} {sc:Sc} {N:Str->Option Value} {h₁:Heap} {K:Frag} {C fI fV fA fG fM x dx L d:Addr} {hs:Int} {tk:Tok} {c c':Nat} {t t':Tok} {b:Bool} {k:Nat}
 {V:Value->Prop} {F:Str->Option Addr} {Φ B:Fns} {vs:List Value} {n:Nat} {tb:Tab}
theorem HF.st1 {y:Str} {X:Str} {tX:Tok} (f:HF h₁ env sc N s₀ s) (hy:N y=some (.str X tX)) (ha:strA X=true):St (On h₁) (fun Z=>False) [] env sc [(y,.d (.str X))] s:=by
 have key : ∀ z (b:Bd),lk [(y,Bd.d (.str X))] z=b->b = .un\/(z=y/\b = .d (.str X)):=fun z b e=>by
  unfold lk at e
  split at e
  ·rename_i q;exact .inr ⟨(beq_iff_eq.mp q).symm,e.symm⟩
  ·exact .inl e.symm
 refine ⟨f.es,(fun a h=>by cases h),f.on,⟨fun z d Z e=> ?_,fun z d Z e=> ?_,fun z d Z e=> ?_⟩,f.fr,fun z u e=> ?_⟩
 ·rcases key _ _ e with q|⟨rfl,q⟩
  ·cases q
  ·cases q;exact ⟨_,f.vals _ _ hy,.str _ _ ha⟩
 ·rcases key _ _ e with q|⟨rfl,q⟩<;>cases q
 ·rcases key _ _ e with q|⟨rfl,q⟩<;>cases q
 ·rcases key _ _ e with q|⟨rfl,q⟩<;>cases q
theorem get_body {fdV:FuncData} {bV:List Stmt} (BB:Bas K h₁ C fI fV fA fG fM fdV bV) (Cx:Ctx prog w (On h₁) (fun Z=>False) F Φ B k) (rm:Room A (k+1)) {body:List Stmt} (hok:GetOk sc body) (f:HF h₁ env sc N s₀ s) (hself:N selfN=some (.ref x)) {X:Str} (hname:N nameN=some (.str X t)) (hX:okStr X=true)
  (TT:TabT h₁ C x dx L hs tk vs n tb) (hlen:tb.length<=1000) (htb:tabOk tb=true) {W:List Addr} (hW:Shut W s₀.heap) (xx:Ext s₀ s) {Q:Flow->Shared->Prop}
  (h : ∀ s' v,Ext s₀ s'->Rep W s'.heap v (tabGet tb X)->Q (.ret v) s'):wpAny (model prog w) A (execs body env) Q E s:=by
 cases hok with|mk k0 k1 k2 k3 k4 k5 k6 k7 k8 k9=>
 have rmk:Room A k:=⟨rm.hh,by have:=rm.dp;exact Nat.lt_of_succ_lt this,by have:=rm.un;exact u1 this⟩
 refine ea02 (low_ok hX) fun hlow hlx=> ?_
 refine ea12 (okStr_of hlx) fun c hcx hc=> ?_
 have hA : ∀ {y:Str},okStr y=true->strA y=true:=fun {y} hy=>by
  obtain ⟨c,rfl,hc⟩:=okStr_of hy
  have : ∀ c∈okChars,strA ⟨#[c]⟩=true:=by decide +kernel
  exact this _ hc
 refine execs2 (wpAny_Assign_Name ?_ (by rfl))
 refine self_conv BB rm f hself k9 hc (Pt:=fun Z=>True) k0 k1 (TT.i.keeps f.on) (fun Q' hq=> ?_) fun s₂ t₂ Z x₂=> ?_
 ·refine (all_se Cx mLower).1 sc _ A env [] _ s (.str (Txt.lower X)) _ _ k2 rmk (f.st1 hname (hA hX)) ?_ fun v s' y r=> ?_
  ·have e1:lk [(nameN,Bd.d (.str X))] nameN = .d (.str X):=by rfl
   exact bindI (evv (Φ:=Φ) (B:=B) e1) hlow
  ·cases r with
   | str _ t' _=>refine rwl hcx ?_;exact hq s' t' trivial y
 refine (f.ext x₂).store k8 fun s₃ f₃ c₃=> ?_
 have c03:Chg (fun a=>s₀.heap.get? a=none) (fun Z=>False) s₀ s₃:=xx.chg.trans (x₂.chg.trans (c₃.mono (fun a ha=>f.slot a ha) fun Z h=>h))
 have x03:Ext s₀ s₃:=c03.ext (fun Z q=>q) fun Z q=>q.elim
 have TT₃:=TT.keeps f₃.on
 refine execs2 (wpAny_Return_some ?_)
 refine rwl (eval_ListComp _ _ _ _) ?_
 have hn₃:(if nameN=nameN then some (Value.str ⟨#[c]⟩ t₂) else N nameN)=some (.str ⟨#[c]⟩ t₂):=if_pos rfl
 have st₃:=f₃.st1 hn₃ (by refine lwr hcx ?_;exact hA hlx)
 refine comp_core2 Cx (all_se Cx mElt).1 (all_sl Cx mConds).2.2 (tg:= .n kvN) k3 k4 (beq_iff_eq.mp k5) (by rfl) k6 k7 rmk st₃ (xs:=tb.map fun p=> .tuple [.str p.1,.str p.2]) (fun Q' hq=> ?_) (by simp [szL];exact Nat.le_trans hlen (Nat.le_of_ble_eq_true rfl)) (by refine lwr hcx ?_;exact tab_run htb) fun D₀ C₀ s' ys m y hD hC hCD hacc hys Z hns=> ?_
 ·refine Attribute_Name_ (f₃.name k9 (by refine rwl (if_neg (by decide +kernel)) ?_;exact hself) (get_headers BB.hk (inK BB.k f₃.on) TT₃.i ?_))
  have y:=Ext.toks s₃ (s₃.toks+1)
  refine iter_seq (W:=[]) (.list (by simp) (y.keep _ _ TT₃.l) (TT₃.r.keeps y.keep)) rfl fun I s' St x hI hlt hF hS=> ?_
  exact hq I s' St (y.trans x) hI hlt hF hS
 ·refine ea11 hns fun m' hns=> ?_
  refine ⟨m',hns,fun h' hs'=> ?_⟩
  have cc:Chg (·= C₀) (fun Z=>False) s' { s' with heap:=h' }:=Chg.one s'.toks hs'
  have x4:Ext s₃ { s' with heap:=h' }:=(y.chg.trans (cc.mono (P':=fun a=>s₃.heap.get? a=none) (fun a ha=>by subst ha;exact hC) fun Z h=>h)).ext (fun Z q=>q) fun Z q=>q.elim
  have bl:Blind [] s'.heap (·= C₀):=fun a ha=>by subst ha;exact .inr (not_seq_ns hns)
  refine h _ _ (x03.trans x4) (.list (n:=m) (fun hm=> ?_) (cc.keep _ _ (Ne.symm hCD) hacc) (reps_any W (hys.chg cc bl) fun d hd=> ?_))
  ·refine ea21 (hW _ hm) fun us nn e=> ?_
   rw [x03.keep _ _ e] at hD;cases hD
  ·rw [List.mem_map] at hd
   obtain ⟨p,_,rfl⟩:=hd
   exact ⟨_,rfl⟩
end
theorem range_get {α:Type} (xs:List α):((List.range xs.length).filterMap fun i=>xs[i]?)=xs:=by
 induction xs with
 | nil=>rfl
 | cons a r ih=>
  refine rwl List.length_cons (rwl List.range_succ_eq_map (rwl List.filterMap_cons (rwl List.filterMap_map ?_)))
  exact congrArg (a :: ·) ih
theorem pick8 {α:Type} (xs:List α) (h:xs.length=8):pick xs none none none=xs:=by
 have e:sliceIx none none none 8=List.range 8:=rfl
 unfold pick
 refine rwl h (rwl e (lwr h ?_))
 exact range_get xs
section
variable {prog:Program} {w:World} {A:Around} {E:Value->Shared->Prop} {s₀ s:Shared} {env:Env} {sc:Sc} {N:Str->Option Value} {h₁:Heap} {K:Frag} {C fI fV fA fG fM x dx L d:Addr} {hs:Int} {tk:Tok} {c c':Nat} {t t':Tok} {b:Bool} {k:Nat}
 {V:Value->Prop} {F:Str->Option Addr} {Φ B:Fns} {vs:List Value} {n:Nat} {tb:Tab}
theorem items_body {fdV:FuncData} {bV:List Stmt} (BB:Bas K h₁ C fI fV fA fG fM fdV bV) {body:List Stmt} (hok:ItemsOk sc body) (f:HF h₁ env sc N s₀ s) (hself:N selfN=some (.ref x))
  (TT:TabT h₁ C x dx L hs tk vs n tb) (hlen:tb.length=8) {W:List Addr} (hW:Shut W s₀.heap) (xx:Ext s₀ s) {Q:Flow->Shared->Prop}
  (h : ∀ s' v,Ext s₀ s'->Rep W s'.heap v (tabItems tb)->Q (.ret v) s'):wpAny (model prog w) A (execs body env) Q E s:=by
 cases hok with|mk k9=>
 have TT₃:=TT.keeps f.on
 refine execs2 (wpAny_Return_some (Subscript_ (Attribute_Name_ (f.name k9 hself (get_headers BB.hk (inK BB.k f.on) TT₃.i ?_)))))
 refine wpAny_Slice (wpAny_evalPart_none (wpAny_evalPart_none (wpAny_evalPart_none ?_)))
 have y:=Ext.toks s (s.toks+1)
 have y2:=Ext.push' { s with toks:=s.toks+1 } { cls:= .type "slice", data:= .fields #[.none,.none,.none] }
 have e:slD (tabItems tb) .none .none .none=some (tabItems tb):=by
  unfold slD tabItems
  simp only [partD,Option.bind_eq_bind,Option.bind_some,List.length_map]
  rw [if_pos ⟨by simp,by refine rwl hlen ?_;decide⟩,pick8 _ (by refine rwl (List.length_map _) ?_;exact hlen)]
 refine op_slF (W:=[]) (.inl (.list (n:=n) (by simp) (y2.keep _ _ (y.keep _ _ TT₃.l)) ((TT₃.r.keeps y.keep).keeps y2.keep))) .none .none .none e (Heap.get?_push_size _ rfl) (fun a us m ds s' e' z hn ha r Z=> ?_) (sub_ops _ _ _)
 have x2:Ext s₀ s':=xx.trans (y.trans (y2.trans z))
 have hds:ds=tb.map fun p=> .tuple [.str p.1,.str p.2]:=by
  unfold tabItems at e';injection e' with e';exact e'.symm
 subst hds
 refine h s' _ x2 (.list (n:=m) (fun hm=> ?_) ha (reps_rows (hW.keeps x2.keep) r fun d hd=> ?_))
 ·refine ea21 (hW _ hm) fun us nn e=> ?_
  rw [y2.keep _ _ (y.keep _ _ (xx.keep _ _ e))] at hn;exact nomatch hn
 ·rw [List.mem_map] at hd
  obtain ⟨p,_,rfl⟩:=hd
  exact ⟨_,_,rfl⟩
structure GetF (h₁:Heap) (fG:Addr) (fd:FuncData) (body:List Stmt):Prop where
 fn:FnG h₁ fG fd body
 ok:GetOk fd.scope.names body
 bind : ∀ u v,bindArgs fd ⟨[u,v],[]⟩=pure [(selfN,u),(nameN,v)]
 ps:(okS fd.scope.names selfN&&okS fd.scope.names nameN)=true
structure ItemsF (h₁:Heap) (fM:Addr) (fd:FuncData) (body:List Stmt):Prop where
 fn:FnG h₁ fM fd body
 ok:ItemsOk fd.scope.names body
 bind : ∀ u,bindArgs fd ⟨[u],[]⟩=pure [(selfN,u)]
 ps:okS fd.scope.names selfN=true
theorem get_call {fdV fdG:FuncData} {bV bG:List Stmt} (BB:Bas K h₁ C fI fV fA fG fM fdV bV) (GF:GetF h₁ fG fdG bG) (Cx:Ctx prog w (On h₁) (fun Z=>False) F Φ B k) (rm:Room A (k+2)) (hon:On h₁ s.heap) {X:Str} (hX:okStr X=true)
  (TT:TabT h₁ C x dx L hs tk vs n tb) (hlen:tb.length=8) (htb:tabOk tb=true) {W:List Addr} (hW:Shut W s.heap) {R:Result->Shared->Prop}
  (h : ∀ s' v,Ext s s'->Rep W s'.heap v (tabGet tb X)->R (.ok (.ret v)) s'):codeAny (model prog w) A (.call (.ref fG) ⟨[.ref x,.str X t],[]⟩) R s:=by
 have ps:=GF.ps
 simp only [Bool.and_eq_true] at ps
 refine call_hf rm (GF.fn.keeps hon) hon (fun binds s₁=>binds=[(selfN,.ref x),(nameN,.str X t)]/\s₁=s) (fun Q E h=> ?_) (fun binds s₁ p=> ?_) fun binds s₁ s₂ env E p z f rm' Z=> ?_
 ·refine rwl (GF.bind _ _) ?_;exact wpAny_pure (h _ _ ⟨rfl,rfl⟩)
 ·obtain ⟨rfl,rfl⟩:=p
  refine ⟨Ext.refl _,(by decide +kernel:[selfN,nameN].Nodup),fun y hy=> ?_⟩
  simp only [List.mem_cons,List.not_mem_nil,or_false] at hy
  rcases hy with rfl|rfl
  ·exact ps.1
  ·exact ps.2
 ·obtain ⟨rfl,rfl⟩:=p
  exact get_body BB Cx rm' GF.ok f (by rfl) (by rfl) hX TT (by exact Eq.symm hlen▸Nat.le_of_ble_eq_true rfl) htb hW z fun s' v x r=>h s' v x r
theorem items_call {fdV fdM:FuncData} {bV bM:List Stmt} (BB:Bas K h₁ C fI fV fA fG fM fdV bV) (MF:ItemsF h₁ fM fdM bM) (rm:Room A (k+1)) (hon:On h₁ s.heap)
  (TT:TabT h₁ C x dx L hs tk vs n tb) (hlen:tb.length=8) {W:List Addr} (hW:Shut W s.heap) {R:Result->Shared->Prop}
  (h : ∀ s' v,Ext s s'->Rep W s'.heap v (tabItems tb)->R (.ok (.ret v)) s'):codeAny (model prog w) A (.call (.ref fM) ⟨[.ref x],[]⟩) R s:=by
 refine call_hf rm (MF.fn.keeps hon) hon (fun binds s₁=>binds=[(selfN,.ref x)]/\s₁=s) (fun Q E h=> ?_) (fun binds s₁ p=> ?_) fun binds s₁ s₂ env E p z f rm' Z=> ?_
 ·refine rwl (MF.bind _) ?_;exact wpAny_pure (h _ _ ⟨rfl,rfl⟩)
 ·obtain ⟨rfl,rfl⟩:=p
  refine ⟨Ext.refl _,(by decide +kernel:[selfN].Nodup),fun y hy=> ?_⟩
  simp only [List.mem_cons,List.not_mem_nil,or_false] at hy
  subst hy
  exact MF.ps
 ·obtain ⟨rfl,rfl⟩:=p
  exact items_body BB MF.ok f (by rfl) TT hlen hW z fun s' v x r=>h s' v x r
theorem om_ok {fdV fdG fdM:FuncData} {bV bG bM:List Stmt} (Hb:Bas K h₁ C fI fV fA fG fM fdV bV) (GF:GetF h₁ fG fdG bG) (MF:ItemsF h₁ fM fdM bM) (Cx:Ctx prog w (On h₁) (fun Z=>False) F Φ B k) (TT:TabT h₁ C x dx L hs tk vs n tb) (hlen:tb.length=8)
  (u:Value) (f:Str) (ds:List D) (d:D) (hu:u = .ref x) (e:BB (some tb) f (.bool true :: .bool true::ds)=some d) :
  ∃ fX:Addr,(∀ (A:Around) (s:Shared) (pl:Sem Bool) (Q:Value×List Value->Shared->Prop) (E:Value->Shared->Prop),On h₁ s.heap->Q (.ref fX,[u]) s->wpAny (model prog w) A (getMethod u f pl) Q E s) /\
   (∀ h,On h₁ h -> ∃ o fd,h.get? fX=some o/\o.data = .func fd) /\ ∀ (A:Around) (s:Shared) (W:List Addr) (vs:List Value),Room A (k+2)->On h₁ s.heap->Shut W s.heap->RepL W s.heap vs ds ->
   codeAny (model prog w) A (.call (.ref fX) ⟨u::vs,[]⟩) (fun r s'=> ∃ v,r = .ok (.ret v)/\Ext s s'/\Rep W s'.heap v d) s:=by
 subst hu
 apply om_el e
 ·intro Z ht hd hf Z e'
  cases ht;cases hd;cases hf;cases e'
  refine ea12 MF.fn.at' fun o ho hdt=> ?_
  refine ⟨fM,fun A s pl Q E hon q=>meth_get Hb.hk (inK Hb.k hon) (TT.i.keeps hon) Hb.hk.fm Hb.hk.tm rfl q,fun h hon=>⟨o,_,hon _ _ ho,hdt⟩,fun A s W us rm hon hW r=> ?_⟩
  cases r
  exact items_call (k:=k+1) Hb MF rm hon TT hlen hW fun s' v x r=>⟨v,rfl,x,r⟩
 ·intro Z X ht hd hf hc e'
  cases ht;cases hd;cases hf;cases e'
  refine ea12 GF.fn.at' fun o ho hdt=> ?_
  refine ⟨fG,fun A s pl Q E hon q=>meth_get Hb.hk (inK Hb.k hon) (TT.i.keeps hon) Hb.hk.fg Hb.hk.tg rfl q,fun h hon=>⟨o,_,hon _ _ ho,hdt⟩,fun A s W us rm hon hW r=> ?_⟩
  cases r with
  | cons r1 r2=>
   cases r2
   apply r1.str_el;intro t Z
   exact get_call Hb GF Cx rm hon (andB hc).1 TT hlen (andB hc).2 hW fun s' v x r=>⟨v,rfl,x,r⟩
end
noncomputable def tg2 (a b:String):Tg:= .t [nm a,nm b]
noncomputable def pLawA:MSs:=mss [
 .asg (nm "start") (li [ci 200,ci 600,ci 1010,ci 913,ci 61450]),
 .asg (nm "sums") (cmpn (md (add (.idx (vr "start") (vr "k")) (.blt (nm "sum") (cmpr (md (vr "x") (ci 1000000)) "x" (.sl (vr "script") (vr "k") (ci 60) (ci 5)) []))) (ci 1000000)) "k" (ci 5) []),
 .asg (nm "row") (cl "_law_row" [vr "sums"]),
 .unp (nm "text") (nm "bare") (cl "_law_texts" [vr "row", ci 0,ci 8,.c (.bool false),.idx (vr "sums") (ci 4)]),
 .asg (nm "left") (cl "_strip_quoted_realnames" [add (vr "text") (cs "\\")]),
 .asg (nm "read") (cl "_law_read" [vr "left"]),
 .ite (.bop .Or (mes [ne' (vr "left") (add (vr "bare") (cs "\\")),ne' (vr "read") (li [vr "row"])])) (mss [.ret (.c (.bool false))]) .nil]
noncomputable def mNameX:ME:= .idx (.idx (vr "read") (ci 0)) (vr "k")
noncomputable def mValX:ME:=str' (vr "k")
noncomputable def pLawB:MSs:=mss [
 .asg (nm "mates") (cmpr (cmpr (.blt (nm "int") (vr "value")) "value" (.om (nm "table") (nm "get_all") (mes [vr "x"])) [ne' (.idx (vr "row") (.blt (nm "int") (vr "value"))) (vr "x")]) "x" (vr "row") []),
 .tup [(nm "linkings", false,li [li []]),(nm "corners", true,li [ci 0])],
 .fr (.n (nm "k")) .rng (ci 4) (mss [.asg (nm "linkings") (.comp2 (vr "more") (.n (nm "links")) (vr "linkings") (.n (nm "more")) (cl "_law_longer" [vr "links", vr "mates"]))]),
 .asg (nm "again") (cmpn (vr "k") "k" (len' (vr "linkings")) [.cmp .In (.idx (vr "linkings") (vr "k")) (.sl (vr "linkings") nn (vr "k") nn)]),
 .ite (.bop .Or (mes [ne' (vr "again") (li []),ne' (vr "linkings") (.blt (nm "sorted") (vr "linkings")),ne' (.om (nm "table") (nm "items") .nil) (cmpn (tu [.idx (vr "row") (vr "k"),str' (vr "k")]) "k" (ci 8) [])])) (mss [.ret (.c (.bool false))]) .nil,
 .asg (nm "hide") (li [cs "\\)", cs "\"(\"", cs "\\(", cs "\"\\\")\"", cs "\\\"", cs "\\\\"]),
 .asg (nm "dress") (cmpn (.ite (eq' (md (add (.idx (vr "sums") (ci 4)) (vr "k")) (ci 4)) (ci 0)) (.idx (vr "hide") (dv (md (add (.idx (vr "sums") (ci 4)) (vr "k")) (ci 24)) (ci 4))) (cs "")) "k" (ci 8) []),
 .tup [(nm "texts", false,li []),(nm "over", false,li [])],
 .fr (.n (nm "links")) .seq (vr "linkings") (mss [
  .asg (nm "ends") (.comp (vr "q") (tg2 "p" "q") false (vr "links") .nil),
  .asg (nm "texts") (cmpn (add (.ite (.cmp .In (vr "k") (vr "ends")) (cs ")") (cs "(")) (.idx (vr "dress") (vr "k"))) "k" (ci 8) []),
  .asg (nm "over") (cmpn (str' (eq' (.comp (vr "p") (tg2 "p" "q") false (vr "links") (mes [.chn .Lt .LtE (vr "p") (vr "k") (vr "q")])) (li []))) "k" (ci 8) []),
  .asg (nm "told") (.comp (str' (cl "_check_parenthesis" [.join (nm "") (.sl (vr "texts") (vr "p") (add (vr "q") (ci 1)) nn)])) (tg2 "p" "q") false (vr "links") .nil),
  .app (nm "corners") (cl "_law_corners" [vr "links"]),
  .ite (.bop .Or (mes [ne' (cmpr (vr "one") "one" (vr "told") [.cmp .NotIn (vr "one") (tu [cs "True", cs "False"])]) (li []),ne' (eq' (vr "told") (mul (li [cs "True"]) (ci 4))) (eq' (.idx (ow "corners") (ci (-1))) (ci 5))])) (mss [.ret (.c (.bool false))]) .nil]),
 .asg (nm "fronts") (cmpn (str' (cl "_check_parenthesis" [.join (nm "") (.sl (vr "texts") nn (vr "k") nn)])) "k" (len' (vr "texts")) []),
 .asg (nm "turned") (cmpn (str' (cl "_check_parenthesis" [.join (nm "") (add (.sl (vr "texts") (vr "k") nn nn) (.sl (vr "texts") nn (vr "k") nn))])) "k" (len' (vr "texts")) []),
 .asg (nm "ring") (cl "_law_struck" [vr "row"]),
 .asg (nm "genus") (.ite (eq' (vr "ring") (li [])) (ci 0) (.ite (cl "_law_is_commutator" [vr "ring"]) (ci 1) (ci 2))),
 .ret (.bop .And (mes [eq' (vr "fronts") (vr "over"),eq' (vr "turned") (vr "over"),eq' (.blt (nm "max") (ow "corners")) (sub (ci 5) (mul (ci 2) (vr "genus")))]))]
noncomputable def tabOkS (sc:Sc) (a b:Stmt):Bool:=onSAssign a fun ts v Z=>on1 ts fun t=>onName t fun t1 Z=>onCall v fun c xs ks Z=>onName c fun hd Z=>onSFor b fun tg it bd el Z=>on1 bd fun st=>onSExpr st fun e Z=>onCall e fun g as ks' p=>onAttribute g fun o an ap=>onName o fun t2 Z=>on2 as fun X Y=>
 (xs.isEmpty&&ks.isEmpty&&el.isEmpty&&ks'.isEmpty)&&(t1==nm "table" && t2==nm "table" && hd==nm "Headers" && an==addN)&&(isGl sc (nm "Headers")&&okS sc (nm "table")&&okS sc (nm "k")&&tgOk (.n (nm "k")) tg&&itOk it)&&(ap.endLine==p.line&&notStar X&&notStar Y&&mt mNameX sc X&&mt mValX sc Y&&mtSrc sc .rng it (mt (ci 8) sc))
noncomputable def lawOk (sc:Sc) (body:List Stmt):Bool:=mtSs pLawA sc (body.take 7)&&onC (body.drop 7) fun a r=>onC r fun b r=>tabOkS sc a b&&mtSs pLawB sc r
section
variable {prog:Program} {w:World} {T:Heap->Prop} {V:Value->Prop} {F:Str->Option Addr} {Φ B:Fns} {Γ:Gens} {k:Nat} {W₀ W W':List Addr} {env:Env} {sc:Sc} {ρ:Loc} {s₀ s s' s'':Shared} {A:Around} {E:Value->Shared->Prop} {L:Addr}
theorem upd_o {x y:Str} {b:Bd} (hb : ∀ ds,b ≠ .o ds) (h : ∀ y ds,lk ρ y ≠ .o ds) : ∀ ds,lk (upd ρ x b) y ≠ .o ds:=fun ds e=>by
 rw [lk_upd] at e
 split at e
 ·exact hb ds e
 ·exact h y ds e
theorem Frm.storeV (C:TopS T F) {x:Str} {v:Value} {Q:Unit->Shared->Prop} (f:Frm T V W₀ W env sc ρ s₀ s) (hx:okS sc x=true) (hV:V v) (noO : ∀ y ds,lk ρ y ≠ .o ds)
  (h : ∀ s',Frm T V W₀ W env sc (upd ρ x (.v v)) s₀ s'->Chg (Slots env) (fun Z=>False) s s'->Q () s'):wpAny (model prog w) A (storeName env x v) Q E s:=by
 refine store_ok f.st.es f.st.fr (okS_hx hx) fun h' tk fr' hh hh' c hsl Z=> ?_
 have c':Chg (Slots env) (fun Z=>False) s { s with heap:=h',toks:=tk }:=c.mono (fun a ha=>by subst ha;exact hsl) fun Z h=>h
 have bl:Blind W s.heap (Slots env):=f.st.fr.blind
 have hW:=f.wslot
 refine h _ ⟨⟨f.st.es,f.st.sh.chg c' hW,f.tof C c' f.slot,⟨fun y d hy e=> ?_,fun y ds hy e=>absurd e (upd_o (fun Z q=>by exact nomatch q) noO ds),fun y u hy e=> ?_⟩,fr',fun y u e=> ?_⟩,f.t0,f.chg.trans (c'.mono f.slot fun Z q=>q.elim),f.own,f.sub,f.slot,fun y ds hy e=>absurd e (upd_o (fun Z q=>by exact nomatch q) noO ds)⟩ c'
 ·rw [lk_upd] at e
  split at e
  ·exact nomatch e
  ·rename_i q
   refine ea12 (f.st.br.d y d hy e) fun u h1 h2=> ?_
   exact ⟨u,hh' y u (fun z=>q (by refine rwl z ?_;exact beq_self_eq_true _)) h1,h2.chg c' bl⟩
 ·rw [lk_upd] at e
  split at e
  ·rename_i q
   cases e
   refine lwr (beq_iff_eq.mp q) ?_;exact hh
  ·rename_i q
   exact hh' y u (fun z=>q (by refine rwl z ?_;exact beq_self_eq_true _)) (f.st.br.v y u hy e)
 ·rw [lk_upd] at e
  split at e
  ·cases e;exact hV
  ·exact f.st.tv y u e
theorem Frm.addL (C:TopS T F) (f:Frm T V W₀ W env sc ρ s₀ s) (c:Chg (fun a=>s.heap.get? a=none\/a=L) (fun Z=>False) s s') (hL:L∈W) (hL' : ∃ vs n,s'.heap.get? L=some (lObj vs n)) (hL0:s₀.heap.get? L=none) (noO : ∀ y ds,lk ρ y ≠ .o ds) :
  Frm T V W₀ W env sc ρ s₀ s'/\Mv env W s W s':=by
 have bl:Blind W s.heap (fun a=>s.heap.get? a=none\/a=L):=fun a ha=>by
  rcases ha with ha|rfl
  ·exact .inr fun o e=>nomatch ha.symm.trans e
  ·exact .inl hL
 have ks : ∀ b o,Slots env b->s.heap.get? b=some o->s'.heap.get? b=some o:=fun b o hb e=>c.keep b o (fun q=>by
  rcases q with q|rfl
  ·exact nomatch q.symm.trans e
  ·exact f.wslot _ hL hb) e
 have kh : ∀ x v,Holds env s.heap x v->Holds env s'.heap x v:=fun x v z=>by
  rcases z with ⟨a,m,hn,hm⟩|⟨a,cc,hc,o,ho,hd⟩
  ·exact .inl ⟨a,m,hn.at' fun o e=>ks _ o (.inl rfl) e,hm⟩
  ·exact .inr ⟨a,cc,hc,o,ks _ o (.inr ⟨x,hc⟩) ho,hd⟩
 have hP : ∀ a,(s.heap.get? a=none\/a=L)->s₀.heap.get? a=none:=fun a ha=>by
  rcases ha with ha|rfl
  ·exact f.base ha
  ·exact hL0
 refine ⟨⟨⟨f.st.es,fun a ha=> ?_,f.tof C c hP,⟨fun y d hy e=> ?_,fun y ds hy e=>absurd e (noO y ds),fun y u hy e=>kh y u (f.st.br.v y u hy e)⟩,f.st.fr.keeps ks,f.st.tv⟩,f.t0,f.chg.trans (c.mono hP fun Z q=>q.elim),f.own,f.sub,f.slot,fun y ds hy e=>absurd e (noO y ds)⟩,⟨c.mono (fun a ha=> ?_) fun Z q=>q.elim,fun a ha=> .inl ha,fun a ha=> ?_,fun Z q=>q⟩⟩
 ·by_cases q:a=L
  ·subst q;exact hL'
  ·refine ea21 (f.st.sh a ha) fun vs n e=> ?_
   exact ⟨vs,n,c.keep a _ (fun z=>z.elim (fun z=>nomatch z.symm.trans e) q) e⟩
 ·refine ea12 (f.st.br.d y d hy e) fun v h1 h2=> ?_
  exact ⟨v,kh y v h1,h2.chg c bl⟩
 ·rcases ha with ha|rfl
  ·exact .inr (.inr ha)
  ·exact .inr (.inl hL)
 ·rcases e:s.heap.get? a with _|o
  ·rfl
  ·by_cases q:a=L
   ·subst q
    refine ea21 hL' fun vs n e'=> ?_
    rw [ha] at e';exact nnE e'
   ·rw [c.keep a o (fun z=>z.elim (fun z=>nomatch z.symm.trans e) q) e] at ha;exact nomatch ha
end
noncomputable abbrev Vt:Value->Prop:=fun Z=>True
noncomputable def readN:Str:=nm "read"
noncomputable def kN:Str:=nm "k"
noncomputable def tableN:Str:=nm "table"
noncomputable def rowD (tb:Tab):List D:=tb.map fun p=> .tuple [.str p.1,.str p.2]
theorem strOk_A {y:Str} (hy:okStr y=true):strA y=true:=by
 obtain ⟨c,rfl,hc⟩:=okStr_of hy
 have : ∀ c∈okChars,strA ⟨#[c]⟩=true:=by decide +kernel
 exact this _ hc
section
variable {prog:Program} {w:World} {F:Str->Option Addr} {Φ B:Fns} {Γ:Gens} {A:Around} {E:Value->Shared->Prop} {s₀ s:Shared} {env:Env} {sc:Sc} {ρ:Loc} {h₁:Heap} {K:Frag} {C fI fV fA fG fM x dx L:Addr} {hs:Int} {tk:Tok} {k:Nat} {tb:Tab}
theorem tab_turn {fdV fd:FuncData} {bV body:List Stmt} (Cg:Ctx prog w (On h₁) Vt F Φ B k) (Hb:Bas K h₁ C fI fV fA fG fM fdV bV) (AF:AddF h₁ fA fd body) (rm:Room A (k+2)) (h1 : ∃ a o,sysModules<=a/\h₁.get? a=some o) (f:Frm (On h₁) Vt [] [L] env sc ρ s₀ s) (noO : ∀ y ds,lk ρ y ≠ .o ds)
  {p:Str×Str} (hp:okStr p.1=true/\okStr p.2=true) (hX:ev Φ B mNameX ρ=some (.str p.1)) (hY:ev Φ B mValX ρ=some (.str p.2)) (hv:lk ρ tableN = .v (.ref x)) (I:TabI s.heap C x dx L hs tk) {vs:List Value} {n:Nat} (hL:s.heap.get? L=some (lObj vs n)) {ds:List D} (r:RepL [L] s.heap vs ds) (hsz:vs.length<=100) (hL1:h₁.get? L=none) (hL0:s₀.heap.get? L=none)
  {np ap pp pos:Pos} {X Y:Expr} (hline:(ap.endLine==pp.line)=true) (hsX:notStar X=true) (hsY:notStar Y=true) (hmX:mt mNameX sc X=true) (hmY:mt mValX sc Y=true) (hok:okN sc tableN=true) {Q:Flow->Shared->Prop}
  (h : ∀ s' vs' n',Frm (On h₁) Vt [] [L] env sc ρ s₀ s'->Mv env [L] s [L] s'->TabI s'.heap C x dx L hs tk->s'.heap.get? L=some (lObj vs' n')->RepL [L] s'.heap vs' (ds++[.tuple [.str p.1,.str p.2]])->vs'.length=vs.length+1->Q .next s') :
  wpAny (model prog w) A (exec (.Expr (.Call (.Attribute (.Name tableN np) addN ap) [X,Y] [] pp) pos) env) Q E s:=by
 have rmk:Room A k:=⟨rm.hh,by have:=rm.dp;exact Nat.lt_of_lt_of_le (Nat.le_of_lt (Nat.le_of_lt this)) Nat.le.refl,by have:=rm.un;exact u1 this⟩
 obtain ⟨c,hc1,hc⟩:=okStr_of hp.1
 obtain ⟨c',hc1',hc'⟩:=okStr_of hp.2
 have hse:starEach [X,Y] env=[(false,eval X env),(false,eval Y env)]:=by refine rwl (starEach_cons hsX) (rwl (starEach_cons hsY) ?_);rfl
 refine rwl (PySem.exec_Expr env _ _ (not_inter f.st.es) (by rfl)) ?_
 refine wpAny_bind (wpAny_standAt (wpAny_bind ?_))
 refine mcallG (fun t=>rfl) (by refine rwl hse ?_;rfl) hline (name_holds f.st.es hok (f.st.br.v _ _ hok hv) fun pl=> ?_)
 refine meth_get Hb.hk (inK Hb.k f.st.tp) I Hb.hk.fa Hb.hk.ta rfl ?_
 refine ea12 AF.fn.at' fun o ho hdt=> ?_
 refine callWith_of (P:=fun hh=>On h₁ hh) (by refine rwl hse ?_;rfl) (fun h' hh=>⟨.frame,.inl rfl,keeper_fn (hh _ _ ho) hdt⟩) ?_
 refine rwl hse ?_
 refine evalArgs_plain (PySem.Calls.spliced_cons ((all_se Cg mNameX).1 sc X A env [L] ρ s _ _ E hmX rmk f.st hX fun v s₁ x₁ r₁=> ?_))
 have f₁:=f.ext Cg.top x₁
 refine PySem.Calls.spliced_cons ((all_se Cg mValX).1 sc Y A env [L] ρ s₁ _ _ E hmY rmk f₁.st hY fun u s₂ x₂ r₂=>PySem.Calls.spliced_nil ?_)
 have f₂:=f₁.ext Cg.top x₂
 have x₁₂:=x₁.trans x₂
 rw [hc1] at r₁
 rw [hc1'] at r₂
 cases r₁ with
 | str _ t₁ _=>
  cases r₂ with
  | str _ t₂ _=>
   refine ⟨f₂.st.tp,wpAny_call (add_call Hb AF rm f₂.st.tp h1 hc hc' (I.keeps x₁₂.keep) (x₁₂.keep _ _ hL) hsz hL1 fun s₃ q n' t'' m cc ti hl hq hq0=> ?_)⟩
   obtain ⟨f₃,mv₃⟩:=f₂.addL Cg.top cc List.mem_cons_self ⟨_,_,hl⟩ hL0 noO
   have hqL:q≠L:=fun z=>by rw [z,x₁₂.keep _ _ hL] at hq0;cases hq0
   refine wpAny_pure (h s₃ _ n' f₃ (x₁₂.mv.trans mv₃) ti hl ?_ (by simp))
   have bl:Blind [L] s₂.heap (fun a=>s₂.heap.get? a=none\/a=L):=fun a ha=>by
    rcases ha with ha|rfl
    ·exact .inr fun o e=>by rw [ha] at e;cases e
    ·exact .inl List.mem_cons_self
   refine rwl hc1 (rwl hc1' ?_)
   exact (((r.ext x₁₂).chg cc bl).append (.cons (.tup (by simpa using hqL) hq (.cons (.str _ _ (hc1▸strOk_A hp.1)) (.cons (.str _ _ (hc1'▸strOk_A hp.2)) .nil))) .nil))
theorem rng8 (i:Nat) (h:i<8):(rngD 8).drop i = .int i::(rngD 8).drop (i+1):=by
 have : ∀ l,(rngD 8).drop l=((List.range 8).drop l).map fun (i:Nat)=>PyData.int i:=fun l=>List.map_drop.symm
 refine rwl (this _) (rwl (this _) (rwl (List.drop_eq_getElem_cons (by simpa using h)) ?_))
 simp
inductive TL (prog:Program) (w:World) (h₁:Heap) (k:Nat) (J L C x dx:Addr) (hs:Int) (tk:Tok) (tb:Tab) (env:Env) (sc:Sc) (ρ:Loc) (s₀ s:Shared):Nat->Shared->Prop
 | mk {n s'} (i own G P ρ' vs nn) (hn:n=8-i+1) (hi:i<=8) (itr:Itr prog w (On h₁) k J ((rngD 8).drop i) own G P) (hown : ∀ a,own a->s.heap.get? a=none) (hG : ∀ j,G j->s.gens[j]? = none) (f:Frm (On h₁) Vt [] [L] env sc ρ' s₀ s') (mv:Mv env [L] s [L] s') (st:P [L] s') (hW : ∀ a∈[L],¬ own a)
   (hgn : ∀ j:Nat,s'.gens[j]? = none->s.gens[j]? = none) (hρ : ∀ y,y≠kN->lk ρ' y=lk ρ y) (no : ∀ y ds,lk ρ' y ≠ .o ds) (I:TabI s'.heap C x dx L hs tk) (hL:s'.heap.get? L=some (lObj vs nn)) (r:RepL [L] s'.heap vs ((rowD tb).take i)) (hl:vs.length=i):TL prog w h₁ k J L C x dx hs tk tb env sc ρ s₀ s n s'
theorem tab_loop {fdV fd:FuncData} {bV body:List Stmt} (Cg:CtxG prog w (On h₁) Vt F Φ B Γ k) (Hb:Bas K h₁ C fI fV fA fG fM fdV bV) (AF:AddF h₁ fA fd body) (rm:Room A (k+2)) (h1 : ∃ a o,sysModules<=a/\h₁.get? a=some o) (f:Frm (On h₁) Vt [] [L] env sc ρ s₀ s) (noO : ∀ y ds,lk ρ y ≠ .o ds)
  (hlen:tb.length=8) (htb:tabOk tb=true) (hX : ∀ (i:Nat) (p:Str×Str),tb[i]? = some p -> ∀ ρ',(∀ y,y≠kN->lk ρ' y=lk ρ y)->lk ρ' kN = .d (.int i)->ev Φ B mNameX ρ'=some (.str p.1)/\ev Φ B mValX ρ'=some (.str p.2)) (hv:lk ρ tableN = .v (.ref x)) (I:TabI s.heap C x dx L hs tk) (hL:s.heap.get? L=some (lObj [] 0))
  (nx : ¬ Slots env x) (nd : ¬ Slots env dx) (hL1:h₁.get? L=none) (hL0:s₀.heap.get? L=none)
  {np ap pp pos pos':Pos} {tg it X Y:Expr} (htg:tgOk (.n kN) tg=true) (hsrc:mtSrc sc .rng it (mt (ci 8) sc)=true) (hit:itOk it=true) (hk:okS sc kN=true)
  (hline:(ap.endLine==pp.line)=true) (hsX:notStar X=true) (hsY:notStar Y=true) (hmX:mt mNameX sc X=true) (hmY:mt mValX sc Y=true) (hok:okN sc tableN=true) {Q:Flow->Shared->Prop}
  (h : ∀ s' ρ' vs n,Frm (On h₁) Vt [] [L] env sc ρ' s₀ s'->(∀ y,y≠kN->lk ρ' y=lk ρ y)->TabT s'.heap C x dx L hs tk vs n tb->Q .next s') :
  wpAny (model prog w) A (exec (.For tg it [.Expr (.Call (.Attribute (.Name tableN np) addN ap) [X,Y] [] pp) pos] [] pos') env) Q E s:=by
 have rmk:Room A k:=⟨rm.hh,by have:=rm.dp;exact Nat.lt_of_lt_of_le (Nat.le_of_lt (Nat.le_of_lt this)) Nat.le.refl,by have:=rm.un;exact u1 this⟩
 refine wpAny_For (for_src Cg (src:= .rng) (e:=ci 8) (xs:=rngD 8) hsrc rmk f.st (by rfl) (by rfl) fun J s₁ own G P x₁ hown hG itr hst=> ?_) (folded_no hit env)
 have f₁:=f.ext Cg.top x₁
 refine codeAny_forLoop_any (TL prog w h₁ k J L C x dx hs tk tb env sc ρ s₀ s) ?_ 9
  (.mk 0 own G P ρ [] 0 rfl (Nat.zero_le _) itr hown hG f₁ x₁.mv (hst [L] s₁ (fun b hb=> .inl hb) (Ext.refl _)) (fun a ha q=>by refine ea21 (f.st.sh a ha) fun vs n e=> ?_;rw [hown a q] at e;cases e) (fun Z hj=>ext_noGen x₁ hj) (fun y Z=>rfl) noO (I.keeps x₁.keep) (x₁.keep _ _ hL) .nil rfl)
 intro n s' hi
 obtain ⟨i,own,G,P,ρ',vs,nn,rfl,hi,itr,hown,hG,f',mv',st',hW',hgn,hρ,noO',I',hL',r',hvl⟩:=hi
 have hS : ∀ {own:Addr->Prop},(∀ a,own a->s.heap.get? a=none) -> ∀ a,own a -> ¬ Slots env a:=fun ho a ha q=>slots_live f.st.fr q (ho a ha)
 have step : ∀ s'',Chg own G s' s''->Frm (On h₁) Vt [] [L] env sc ρ' s₀ s''/\Mv env [L] s [L] s''/\TabI s''.heap C x dx L hs tk/\s''.heap.get? L=some (lObj vs nn)/\RepL [L] s''.heap vs ((rowD tb).take i):=fun s'' c=>
  ⟨f'.chg' Cg.top c (fun a ha=>f.base (hown a ha)) (fun j hj=>f.baseG (hG j hj)) (hS hown) hW' fun a ha=> .inr (itr.c.blind [L] s' st' a ha),mv'.step c hown hG,
   ⟨c.keep _ _ (fun q=>by have:=hown _ q;rw [I.inst] at this;cases this) I'.inst,c.keep _ _ (fun q=>by have:=hown _ q;rw [I.dict] at this;cases this) I'.dict⟩,c.keep _ _ (hW' L List.mem_cons_self) hL',r'.chg c fun a ha=> .inr (itr.c.blind [L] s' st' a ha)⟩
 rcases Nat.lt_or_ge i 8 with hlt|hge
 ·rw [rng8 i hlt] at itr
  obtain ⟨p,hpi⟩ : ∃ p,tb[i]? = some p:=⟨tb[i],List.getElem?_eq_getElem (by exact Nat.lt_of_lt_of_eq hlt (id (Eq.symm hlen)))⟩
  refine itr.2 A [L] s' _ _ rmk st' fun v s₂ own' G' P' itr' st₂ ho' hg' c₂ rv=> ?_
  refine ea05 (step s₂ c₂) fun f₂ mv₂ I₂ hL₂ r₂=> ?_
  have hown' : ∀ a,own' a->s.heap.get? a=none:=fun a ha=>(ho' a ha).elim (hown a) fun q=>mv'.live a q
  have hW₂ : ∀ a∈[L],¬ own' a:=fun a ha q=>(ho' a q).elim (hW' a ha) fun z=>by
   refine ea21 (f'.st.sh a ha) fun vs n e=> ?_
   rw [z] at e;cases e
  refine itr'.c.letgo A [L] s₂ _ v _ _ st₂ ?_
  apply tgn_el htg;clear htg;intro tp
  refine wpAny_assign_Name (store_nm Cg.top f₂ hk (rv f₂.st.sh) fun s₃ f₃ mv₃ c₃=> ?_)
  refine ea02 (itr'.c.move st₂ f₂.st.fr mv₃ f₃.st.tp hW₂ (hS hown')) fun st₃ hW₃=> ?_
  have I₃:TabI s₃.heap C x dx L hs tk:=⟨c₃.keep _ _ nx I₂.inst,c₃.keep _ _ nd I₂.dict⟩
  have hL₃:s₃.heap.get? L=some (lObj vs nn):=c₃.keep _ _ (f.wslot L List.mem_cons_self) hL₂
  have r₃:RepL [L] s₃.heap vs ((rowD tb).take i):=r₂.chg c₃ f₂.st.fr.blind
  have hρ₃ : ∀ y,y≠kN->lk (upd ρ' kN (.d (.int i))) y=lk ρ y:=fun y hy=>by
   refine rwl (lk_upd _ _ _ _) (rwl (if_neg (by simpa using fun z=>hy z.symm)) ?_);exact hρ y hy
  have noO₃ : ∀ y ds,lk (upd ρ' kN (.d (.int i))) y ≠ .o ds:=fun y=>upd_o (fun Z q=>by cases q) noO'
  obtain ⟨e1,e2⟩:=hX i p hpi _ hρ₃ (by refine rwl (lk_upd _ _ _ _) ?_;simp)
  have hp:okStr p.1=true/\okStr p.2=true:=by
   have:=List.all_eq_true.mp htb p (List.mem_of_getElem? hpi)
   simpa using this
  refine execs2 (tab_turn Cg.toCtx Hb AF rm h1 f₃ noO₃ hp e1 e2 ((hρ₃ _ (by decide +kernel)).trans hv) I₃ hL₃ r₃ (by exact Nat.le_trans (Nat.le_of_eq hvl) (t2 hi rfl)) hL1 hL0 hline hsX hsY hmX hmY hok fun s₄ vs' n' f₄ mv₄ I₄ hL₄ r₄ hvl'=> ?_)
  refine wpAny_execs_nil ?_
  refine ea02 (itr'.c.move st₃ f₃.st.fr mv₄ f₄.st.tp hW₃ (hS hown')) fun st₄ hW₄=> ?_
  have g2:=gens_back (s:=s) (G:=G) (fun j x=>c₂.gen j x) hG hgn
  have g3:=gens_back (s:=s) (G:=fun j=>s₂.gens[j]? = none) (fun j x=>mv₃.chg.gen j x) (fun j hj=>g2 j hj) g2
  refine ⟨8-(i+1)+1,by exact H54 (Nat.sub_pos_of_lt hlt) (Int.toNat_natCast _),i+1,own',G',P',_,vs',n',rfl,hlt,itr',hown',fun j hj=>(hg' j hj).elim (hG j) (hgn j),f₄,mv₂.trans (mv₃.trans mv₄),st₄,hW₄,gens_back (G:=fun j=>s₃.gens[j]? = none) (fun j x=>mv₄.chg.gen j x) (fun j hj=>g3 j hj) g3,hρ₃,noO₃,I₄,hL₄,?_,by exact H416 hvl' hvl⟩
  have:(rowD tb).take (i+1)=(rowD tb).take i++[.tuple [.str p.1,.str p.2]]:=by
   have e:(rowD tb)[i]? = some (.tuple [.str p.1,.str p.2]):=by unfold rowD;refine rwl List.getElem?_map (rwl hpi ?_);rfl
   refine rwl List.take_add_one (rwl e ?_);rfl
  refine rwl this ?_;exact r₄
 ·have:i=8:=by exact Nat.le_antisymm hi hge
  subst this
  have hd:(rngD 8).drop 8=[]:=by rfl
  rw [hd] at itr
  refine itr.2 A [L] s' _ _ rmk st' fun s₂ c₂=> ?_
  refine ea05 (step s₂ c₂) fun f₂ mv₂ I₂ hL₂ r₂=> ?_
  refine wpAny_execs_nil (h s₂ ρ' vs nn f₂ hρ ⟨I₂,hL₂,?_⟩)
  rw [List.take_of_length_le (by unfold rowD;refine rwl (List.length_map _) (rwl hlen ?_);exact Nat.le_refl _)] at r₂
  exact r₂.sub fun a ha=>by cases ha
end
open Classical in
noncomputable def hideH (h:Heap) (S:Addr->Prop):Heap:=⟨h.objs.mapIdx fun i o=>if S i then { o with data:= .freed } else o,h.life⟩
theorem hide_in {h:Heap} {S:Addr->Prop} {a:Addr} (hS:S a):(hideH h S).get? a=none:=by
 unfold hideH Heap.get?
 refine rwl Array.getElem?_mapIdx ?_
 rcases h.objs[a]? with _|o
 ·rfl
 ·simp [hS]
theorem hide_out {h:Heap} {S:Addr->Prop} {a:Addr} (hS : ¬ S a):(hideH h S).get? a=h.get? a:=by
 unfold hideH Heap.get?
 refine rwl Array.getElem?_mapIdx ?_
 rcases h.objs[a]? with _|o
 ·rfl
 ·simp [hS]
theorem hide_some {h:Heap} {S:Addr->Prop} {a:Addr} {o:Obj} (e:(hideH h S).get? a=some o) : ¬ S a/\h.get? a=some o:=by
 by_cases q:S a
 ·rw [hide_in q] at e;exact nnE e
 ·rw [hide_out q] at e;exact ⟨q,e⟩
section
variable {prog:Program} {w:World} {F:Str->Option Addr} {Φ B:Fns} {Γ:Gens} {A:Around} {E:Value->Shared->Prop} {s₀ s s':Shared} {env:Env} {sc:Sc} {ρ:Loc} {h₁ h₂:Heap} {K:Frag} {C fI fV fA fG fM x dx L:Addr} {hs:Int} {tk:Tok} {k:Nat} {tb:Tab} {T:Heap->Prop} {V V':Value->Prop} {W₀ W:List Addr}
theorem On.trans {h₃:Heap} (a:On h₁ h₂) (b:On h₂ h₃):On h₁ h₃:=fun x o e=>b x o (a x o e)
theorem FnIs.on {a:Addr} {fd:FuncData} {ps:List Str} {body:List Stmt} (I:FnIs (On h₁) a fd ps body) (o:On h₁ h₂):FnIs (On h₂) a fd ps body:=
 { I with at':=fun h hT=>I.at' h (o.trans hT),lim:=fun h hT=>I.lim h (o.trans hT),cd:=fun h hT=>I.cd h (o.trans hT) }
theorem Top.on (H:Top prog w (On h₁) F) (o:On h₁ h₂):Top prog w (On h₂) F where
 top:=⟨fun Z Z hT hk b ob e=>hk b ob (hT b ob e),fun h hT=>H.top.fn h (o.trans hT),fun h hT=>H.top.blt h (o.trans hT)⟩
 base:=⟨h₂,fun Z=>Iff.rfl⟩
 fns:=fun p hp=>ea34 (H.fns p hp) fun a fd body h1 h2 h3 h4=>⟨a,fd,body,h1,h2.on o,h3,h4⟩
 gen:=ea33 H.gen fun a fd body h1 h2 h3=>⟨a,fd,body,h1,h2.on o,h3⟩
 dg:=fun p q d e=>ea13 (H.dg p q d e) fun Da h1 h2 h3=>⟨Da,fun h hT=>h1 h (o.trans hT),fun A s pl Q E hT q=>h2 A s pl Q E (o.trans hT) q,fun A s W v u Q E rm hT=>h3 A s W v u Q E rm (o.trans hT)⟩
 gc:=fun h hT=>H.gc h (o.trans hT)
theorem ReTop.on {g:Str} (H:ReTop (On h₁) g) (o:On h₁ h₂):ReTop (On h₂) g:=
 let ⟨P,C,p,t1,t2,t3,vs,n,h1,h2⟩:=H;⟨P,C,p,t1,t2,t3,vs,n,fun h hT=>h1 h (o.trans hT),h2⟩
theorem Bas.on {fdV:FuncData} {bV:List Stmt} (H:Bas K h₁ C fI fV fA fG fM fdV bV) (o:On h₁ h₂):Bas K h₂ C fI fV fA fG fM fdV bV:=
 ⟨⟨fun h hT=>H.top.ty h (o.trans hT),fun h hT=>H.top.st h (o.trans hT),fun h hT=>H.top.li h (o.trans hT),H.top.re1.on o,H.top.re2.on o⟩,inK H.k o,H.hk,⟨H.cv.fn.keeps o,H.cv.ok,H.cv.bind,H.cv.ps⟩⟩
theorem GetF.on {fd:FuncData} {b:List Stmt} (H:GetF h₁ fG fd b) (o:On h₁ h₂):GetF h₂ fG fd b:=⟨H.fn.keeps o,H.ok,H.bind,H.ps⟩
theorem ItemsF.on {fd:FuncData} {b:List Stmt} (H:ItemsF h₁ fM fd b) (o:On h₁ h₂):ItemsF h₂ fM fd b:=⟨H.fn.keeps o,H.ok,H.bind,H.ps⟩
theorem sxs_app (C:CtxG prog w T V F Φ B Γ k) : ∀ (ms:MSs) (l₁ l₂:List Stmt) (W:List Addr) (ρ ρ₁:Loc) (s:Shared) (Q:Flow->Shared->Prop),mtSs ms sc l₁=true->Room A k->Frm T V W₀ W env sc ρ s₀ s->exs Φ B Γ ms ρ=some (ρ₁,none) ->
  (∀ W' s',Frm T V W₀ W' env sc ρ₁ s₀ s'->wpAny (model prog w) A (execs l₂ env) Q E s')->wpAny (model prog w) A (execs (l₁++l₂) env) Q E s
 | .nil,l₁,l₂,W,ρ,ρ₁,s,Q,hm,rm,f,he,h=>by
  obtain rfl:=nilB hm;cases he
  exact h W s f
 | .cons m r,l₁,l₂,W,ρ,ρ₁,s,Q,hm,rm,f,he,h=>by
  apply mtSs_el hm;clear hm;intro t ts hmt hmr
  refine bindE he fun p hp he=> ?_
  refine rwl List.cons_append (rwl (execs_cons _ _ _) ?_)
  refine wpAny_bind (all_sx C m sc t A env W₀ W ρ s₀ s p _ _ hmt rm f hp ?_)
  obtain ⟨ρ₂,o⟩:=p
  rcases o with _|d
  ·exact fun W' s' f' Z=>sxs_app C r ts l₂ W' ρ₂ ρ₁ s' Q hmr rm f' he h
  ·exact nomatch he
theorem Frm.noW (f:Frm T V [] W env sc ρ s₀ s) (noO : ∀ y ds,lk ρ y ≠ .o ds):Frm T V [] [] env sc ρ s₀ s:=
 ⟨⟨f.st.es,(fun a h=>by cases h),f.st.tp,⟨fun y d hy e=>ea12 (f.st.br.d y d hy e) fun v h1 h2=>⟨v,h1,h2.sub (fun a h=>by cases h)⟩,fun y ds hy e=>absurd e (noO y ds),f.st.br.v⟩,f.st.fr,f.st.tv⟩,
  f.t0,f.chg,(fun a h=>by exact nomatch h),(fun a h=>by exact nomatch h),f.slot,fun y ds hy e=>absurd e (noO y ds)⟩
theorem Frm.shutL (C:TopS T F) (f:Frm T V [] [] env sc ρ s₀ s) (noO : ∀ y ds,lk ρ y ≠ .o ds) (x:Ext s s') (hL:s.heap.get? L=none) {vs:List Value} {n:Nat} (hL':s'.heap.get? L=some (lObj vs n)):Frm T V [] [L] env sc ρ s₀ s':=
 have f':=f.ext C x
 ⟨⟨f.st.es,(fun a h=>by cases List.mem_singleton.mp h;exact ⟨_,_,hL'⟩),f'.st.tp,⟨fun y d hy e=>ea12 (f.st.br.d y d hy e) fun v h1 h2=>⟨v,h1.keeps x.keep,(h2.shut hL).ext x⟩,fun y ds hy e=>absurd e (noO y ds),f'.st.br.v⟩,f'.st.fr,f'.st.tv⟩,
  f'.t0,f'.chg,(fun a h=>by cases List.mem_singleton.mp h;exact .inr (f.base hL)),(fun a h=>by exact nomatch h),f'.slot,fun y ds hy e=>absurd e (noO y ds)⟩
end
noncomputable def scriptN:Str:=nm "script"
section
variable {prog:Program} {w:World} {F:Str->Option Addr} {A:Around} {s:Shared} {h₁:Heap} {K:Frag} {C fI fV fA fG fM fa:Addr} {tb:Tab} {n:Nat}
theorem ctxG_of (TP:Top prog w (On h₁) F) (V:Value->Prop) (t:Option Tab) (om : ∀ u f ds d,V u->BB t f (.bool true :: .bool true::ds)=some d -> ∃ fA:Addr,(∀ (A:Around) (s:Shared) (pl:Sem Bool) (Q:Value×List Value->Shared->Prop) (E:Value->Shared->Prop),On h₁ s.heap->Q (.ref fA,[u]) s->wpAny (model prog w) A (getMethod u f pl) Q E s) /\
   (∀ h,On h₁ h -> ∃ o fd,h.get? fA=some o/\o.data = .func fd) /\ ∀ (A:Around) (s:Shared) (W:List Addr) (vs:List Value),Room A (n+1)->On h₁ s.heap->Shut W s.heap->RepL W s.heap vs ds ->
   codeAny (model prog w) A (.call (.ref fA) ⟨u::vs,[]⟩) (fun r s'=> ∃ v,r = .ok (.ret v)/\Ext s s'/\Rep W s'.heap v d) s):CtxG prog w (On h₁) V F (Phi n) (BB t) GG (n+1):=
 have C0:=ctx_of TP (fun Z=>False) none (fun Z Z=>none) n (fun f ds d e=>by simp at e) (fun u f ds d hv=>hv.elim)
 { ctx_of TP V t (Phi n) (n+1) (fun f ds d e=>phi_ok TP n f ds d e) om with gn:=fun f d xs e=>gn_ok TP C0 f d xs e }
theorem bb_none {f:Str} {ds:List D} {d:D} (e:BB none f (.bool true :: .bool true::ds)=some d):False:=om_el e (fun Z h=>nomatch h) fun Z Z h=>nomatch h
structure Runs (n:Nat) (d dr:D) (tb:Tab):Prop where
 a : ∃ ρ,exs (Phi n) (BB none) GG pLawA [(scriptN,.d d)]=some (ρ,none)/\(∀ y ds,lk ρ y ≠ .o ds)/\(∀ y u,lk ρ y ≠ .v u)/\lk ρ readN = .d (.list [.list (tb.map fun p=> .str p.1)])/\lk ρ kN = .un /\
  ∀ u,∃ ρ',exs (Phi n) (BB (some tb)) GG pLawB (upd ρ tableN (.v u))=some (ρ',some dr)
 len:tb.length=8
 ok:tabOk tb=true
 dig : ∀ (i:Nat) (p:Str×Str),tb[i]? = some p->strB (.int i)=some (.str p.2)
theorem seq8 : ∀ i<8,seqIndex? ((i:Nat):Int) 8=some i:=by decide
theorem name_ev {Φ B:Fns} {ρ:Loc} (hr:lk ρ readN = .d (.list [.list (tb.map fun p=> .str p.1)])) (hlen:tb.length=8) {i:Nat} {p:Str×Str} (hp:tb[i]? = some p) (hk:lk ρ kN = .d (.int i)):ev Φ B mNameX ρ=some (.str p.1):=by
 have hi:i<8:=by
  refine lwr hlen ?_
  exact (List.getElem?_eq_some_iff.mp hp).1
 have e1:idxD (.list [.list (tb.map fun p=> .str p.1)]) (.int 0)=some (.list (tb.map fun p=> .str p.1)):=by rfl
 have e2:idxD (.list (tb.map fun p=>PyData.str p.1)) (.int i)=some (.str p.1):=by
  have h2:(tb.map fun p=>PyData.str p.1)[i]? = some (.str p.1):=by refine rwl List.getElem?_map (rwl hp ?_);rfl
  have h3:(tb.map fun p=>PyData.str p.1).length=8:=by exact rwl (List.length_map _) (rwl hlen rfl)
  show (if (tb.map fun p=>PyData.str p.1).length<=szL/\_/\_ then (seqIndex? (i:Int) (tb.map fun p=>PyData.str p.1).length).bind ((tb.map fun p=>PyData.str p.1)[·]?) else none)=_
  refine rwl h3 (rwl (if_pos ⟨by decide,by exact Int.NonNeg.mk (_+Nat.succ 9223372036854775807),by exact i63 (Nat.le_of_lt hi) rfl⟩) (rwl (seq8 i hi) ?_))
  exact h2
 exact bindI (show ((ev Φ B (.var readN) ρ).bind fun x=>idxD x (.int 0))=_ from bindI (evv hr) e1) (bindI (evv hk) e2)
theorem law_rest {fdV fdG fdM:FuncData} {bV bG bM rest:List Stmt} {names:Sc} {env:Env} {A:Around} {ρ ρ₆:Loc} {s₆:Shared} {x₄ dx L:Addr} {hs:Int} {tk:Tok} {vs:List Value} {m:Nat} {dr:D} (TP:Top prog w (On h₁) F) (Hb:Bas K h₁ C fI fV fA fG fM fdV bV) (GF:GetF h₁ fG fdG bG) (MF:ItemsF h₁ fM fdM bM)
  (hlen:tb.length=8) (noO : ∀ y ds,lk ρ y ≠ .o ds) (noV : ∀ y u,lk ρ y ≠ .v u) (hk:lk ρ kN = .un) (hB : ∀ u,∃ ρ',exs (Phi (n+1)) (BB (some tb)) GG pLawB (upd ρ tableN (.v u))=some (ρ',some dr)) (f₆:Frm (On h₁) Vt [] [L] env names ρ₆ s s₆) (hρ₆ : ∀ y,y≠kN->lk ρ₆ y=lk (upd ρ tableN (.v (.ref x₄))) y)
  (TT:TabT s₆.heap C x₄ dx L hs tk vs m tb) (nx : ¬ Slots env x₄) (nd : ¬ Slots env dx) (nL : ¬ Slots env L) (hon:On h₁ s.heap) (hsl : ∀ a,Slots env a->s.heap.get? a=none) (hm3:mtSs pLawB names rest=true) (rm2:Room A (n+2)) {Q:Flow->Shared->Prop} {E:Value->Shared->Prop} (hQ : ∀ v' s',Ext s s'->Rep [] s'.heap v' dr->Q (.ret v') s'):wpAny (model prog w) A (execs rest env) Q E s₆:=by
 have hslot : ∀ a,Slots env a->h₁.get? a=none:=fun a ha=>On.gone hon (hsl a ha)
 have hon2:On h₁ (hideH s₆.heap (Slots env)):=fun b ob e=>by refine rwl (hide_out (fun q=>by rw [hslot b q] at e;exact nnE e)) ?_;exact f₆.st.tp b ob e
 have TT2:TabT (hideH s₆.heap (Slots env)) C x₄ dx L hs tk vs m tb:=by
  refine ⟨⟨?_,?_⟩,?_,TT.r.mono fun a ob ha hq e=>⟨ha,?_⟩⟩
  ·refine rwl (hide_out nx) ?_;exact TT.i.inst
  ·refine rwl (hide_out nd) ?_;exact TT.i.dict
  ·refine rwl (hide_out nL) ?_;exact TT.l
  ·refine rwl (hide_out (fun q=>by
    rcases f₆.st.fr.blind (W:=[]) a q with z|z
    ·exact nomatch z
    ·exact z ob e hq)) ?_
   exact e
 have TP2:=TP.on hon2
 have Cx:Ctx prog w (On (hideH s₆.heap (Slots env))) (fun Z=>False) F (fun Z Z=>none) (BB none) n:=ctx_of TP2 (fun Z=>False) none (fun Z Z=>none) n (fun f ds d e=>by simp at e) (fun u f ds d hv=>hv.elim)
 have CB:CtxG prog w (On (hideH s₆.heap (Slots env))) (fun u=>u = .ref x₄) F (Phi (n+1)) (BB (some tb)) GG (n+2):=
  ctxG_of TP2 _ (some tb) fun u f ds d hv e=>om_ok (Hb.on hon2) (GF.on hon2) (MF.on hon2) Cx TT2 hlen u f ds d hv e
 refine ea11 (hB (.ref x₄)) fun ρ' hBr=> ?_
 have noOB : ∀ y ds,lk (upd ρ tableN (.v (.ref x₄))) y ≠ .o ds:=fun y=>upd_o (fun Z q=>by exact nomatch q) noO
 have hnk : ∀ y,(tableN==y)=false->lk (upd ρ tableN (.v (.ref x₄))) y=lk ρ y:=fun y hy=>by rw [lk_upd,if_neg (by refine rwl hy ?_;decide)]
 have hρB : ∀ y,lk (upd ρ tableN (.v (.ref x₄))) y = .un\/lk (upd ρ tableN (.v (.ref x₄))) y=lk ρ₆ y:=fun y=>by
  by_cases q:y=kN
  ·subst q;left;refine rwl (hnk _ rfl) ?_;exact hk
  ·right;exact (hρ₆ y q).symm
 have st₆:=f₆.st.weaken hρB
 have fB:Frm (On (hideH s₆.heap (Slots env))) (fun u=>u = .ref x₄) [] [] env names (upd ρ tableN (.v (.ref x₄))) { s₆ with heap:=hideH s₆.heap (Slots env) } s₆:=by
  refine ⟨⟨st₆.es,(fun a h=>by exact nomatch h),fun b ob e=>(hide_some e).2,⟨fun y d hy e=> ?_,fun y ds hy e=>absurd e (noOB y ds),st₆.br.v⟩,st₆.fr,fun y u e=> ?_⟩,⟨On.refl _,fun a h=>by exact nomatch h⟩,⟨fun b ob hP e=>(hide_some e).2,rfl,fun j x Z e=>e,fun h=>h⟩,(fun a h=>by exact nomatch h),(fun a h=>by exact nomatch h),fun a ha=>hide_in ha,fun y ds hy e=>absurd e (noOB y ds)⟩
  ·refine ea12 (st₆.br.d y d hy e) fun v h1 h2=> ?_
   exact ⟨v,h1,h2.sub fun a h=>by exact nomatch h⟩
  ·rw [lk_upd] at e
   split at e
   ·cases e;rfl
   ·exact absurd e (noV y u)
 refine all_sxs CB pLawB names rest _ env [] [] _ _ s₆ (ρ',some dr) _ _ hm3 rm2 fB hBr fun v' s₇ x₇ r₇=>hQ v' s₇ ?_ r₇
 have x₆:Ext s s₆:=f₆.done
 refine ⟨fun b ob e=>x₇.keep b ob ?_,x₇.os.trans x₆.os,fun j ob e=>x₇.gen j ob (x₆.gen j ob e),fun h=>x₇.bare (x₆.bare h)⟩
 show (hideH s₆.heap (Slots env)).get? b=some ob
 refine rwl (hide_out (fun q=>by rw [hsl b q] at e;exact nnE e)) ?_
 exact x₆.keep b ob e
structure TabM (sc:Sc) (tg it X Y:Expr) (ap pp:Pos):Prop where
 k1:isGl sc (nm "Headers")=true
 k2:okS sc (nm "table")=true
 k3:okS sc (nm "k")=true
 k4:tgOk (.n (nm "k")) tg=true
 k5:itOk it=true
 k6:(ap.endLine==pp.line)=true
 k7:notStar X=true
 k8:notStar Y=true
 k9:mt mNameX sc X=true
 ka:mt mValX sc Y=true
 src:mtSrc sc .rng it (mt (ci 8) sc)=true
theorem tabM_el {sc:Sc} {a b:Stmt} {P:Stmt->Stmt->Prop} (hm2:tabOkS sc a b=true) (k : ∀ p₁ p₂ p₃ p₄ tg it p₅ p₆ pp ap np X Y,TabM sc tg it X Y ap pp ->
  P (.Assign [.Name (nm "table") p₁] (.Call (.Name (nm "Headers") p₂) [] [] p₃) p₄) (.For tg it [.Expr (.Call (.Attribute (.Name (nm "table") np) addN ap) [X,Y] [] pp) p₅] [] p₆)):P a b:=by
 apply onSAssign_el (P:=fun a=>P a b) hm2;intro ts v' p₁ hm2
 apply on1_el hm2;clear hm2;intro t hm2
 apply onName_el hm2;clear hm2;intro t1 p₂ hm2
 apply onCall_el hm2;clear hm2;intro c₁ xs₁ ks p₃ hm2
 apply onName_el hm2;clear hm2;intro hd p₄ hm2
 apply onSFor_el hm2;clear hm2;intro tg it bd el p₅ hm2
 apply on1_el hm2;clear hm2;intro st₁ hm2
 apply onSExpr_el hm2;clear hm2;intro ee p₆ hm2
 apply onCall_el hm2;clear hm2;intro g₁ as₁ ks' pp hm2
 apply onAttribute_el hm2;clear hm2;intro oo an ap hm2
 apply onName_el hm2;clear hm2;intro t2 np hm2
 apply on2_el hm2;clear hm2;intro X Y hm2
 refine and4 hm2 fun z1 z2 z3 z4=>and4 z1 fun n1 n2 n3 n4=>and4 z2 fun q1 q2 q3 q4=>and5 z3 fun k1 k2 k3 k4 k5=>and6 z4 fun k6 k7 k8 k9 k10 hsrc=> ?_
 obtain rfl:=nilB n1;obtain rfl:=nilB n2;obtain rfl:=nilB n3;obtain rfl:=nilB n4;obtain rfl:=(eqB q1).symm;obtain rfl:=(eqB q2).symm;obtain rfl:=(eqB q3).symm;obtain rfl:=(eqB q4).symm
 exact k _ _ _ _ _ _ _ _ _ _ _ _ _ ⟨k1,k2,k3,k4,k5,k6,k7,k8,k9,k10,hsrc⟩
theorem law_mid {fdV fdI fdA fdG fdM:FuncData} {bV bI bA bG bM rest:List Stmt} {a b:Stmt} {names:Sc} {env:Env} {A:Around} {ρ:Loc} {s₃:Shared} {d dr:D} (TP:Top prog w (On h₁) F) (Hb:Bas K h₁ C fI fV fA fG fM fdV bV) (IF:InitF h₁ fI fdI bI) (AF:AddF h₁ fA fdA bA) (GF:GetF h₁ fG fdG bG) (MF:ItemsF h₁ fM fdM bM)
  (hHead : ∀ h,On h₁ h->Glob h (nm "Headers") (.ref C)) (hkeep:keepIn K (.ref C)=true) (h1 : ∃ a o,sysModules<=a/\h₁.get? a=some o) (RR:Runs (n+1) d dr tb) (hread:lk ρ readN = .d (.list [.list (tb.map fun p=> .str p.1)])) (noO : ∀ y ds,lk ρ y ≠ .o ds) (noV : ∀ y u,lk ρ y ≠ .v u) (hk:lk ρ kN = .un)
  (hB : ∀ u,∃ ρ',exs (Phi (n+1)) (BB (some tb)) GG pLawB (upd ρ tableN (.v u))=some (ρ',some dr)) (CA:CtxG prog w (On h₁) Vt F (Phi (n+1)) (BB none) GG (n+2)) (f₃:Frm (On h₁) Vt [] [] env names ρ s s₃) (hon:On h₁ s.heap) (hsl : ∀ a,Slots env a->s.heap.get? a=none)
  (hm2:tabOkS names a b=true) (hm3:mtSs pLawB names rest=true) (rm4:Room A (n+4)) (rm2:Room A (n+2)) {Q:Flow->Shared->Prop} {E:Value->Shared->Prop} (hQ : ∀ v' s',Ext s s'->Rep [] s'.heap v' dr->Q (.ret v') s'):wpAny (model prog w) A (execs (a::b::rest) env) Q E s₃:=by
 apply tabM_el hm2;clear hm2;intro p₁ p₂ p₃ p₄ tg it p₅ p₆ pp ap np X Y hM
 obtain ⟨k1,k2,k3,k4,k5,k6,k7,k8,k9,k10,hsrc⟩:=hM
 have k1:names.lookup (nm "Headers")=some .globalImplicit/\(nm "Headers" == ("__debug__" : Str))=false:=⟨eqB (andB k1).1,notB (andB k1).2⟩
 refine execs2 (wpAny_Assign_Name ?_ (by rfl))
 refine wpAny_Call_Name_kw (name_glob f₃.st.es k1.1 k1.2 (hHead _ f₃.st.tp) ?_)
 refine callWith_of (P:=fun hh=>On h₁ hh) (by rfl) (fun h' hh=>keeps_K hkeep h' (inK Hb.k hh)) ?_
 refine evalArgs_nil3 ⟨f₃.st.tp,wpAny_call (headers_call Hb.top Hb.hk Hb.k IF rm4 f₃.st.tp fun s₄ x₄ dx L hs tk y₄ hx0 hd0 hL0 ti hL=> ?_)⟩
 have f₄:=f₃.shutL CA.top noO y₄ hL0 hL
 have nx : ¬ Slots env x₄:=fun q=>slots_live f₃.st.fr q hx0
 have nd : ¬ Slots env dx:=fun q=>slots_live f₃.st.fr q hd0
 have nL : ¬ Slots env L:=fun q=>slots_live f₃.st.fr q hL0
 refine f₄.storeV CA.top k2 (v:= .ref x₄) trivial noO fun s₅ f₅ c₅=> ?_
 have noO₅ : ∀ y ds,lk (upd ρ tableN (.v (.ref x₄))) y ≠ .o ds:=fun y=>upd_o (fun Z q=>by exact nomatch q) noO
 have hnk : ∀ y,(tableN==y)=false->lk (upd ρ tableN (.v (.ref x₄))) y=lk ρ y:=fun y hy=>by rw [lk_upd,if_neg (by refine rwl hy ?_;decide)]
 refine execs2 (tab_loop CA Hb AF rm4 h1 f₅ noO₅ RR.len RR.ok (fun i p hp ρ' hρ' hki=>⟨name_ev (tb:=tb) ?_ RR.len hp hki,?_⟩) (by show lk (upd ρ tableN _) tableN=_;exact rwl (lk_upd _ _ _ _) (rwl (if_pos (beq_self_eq_true _)) rfl)) ⟨c₅.keep _ _ nx ti.inst,c₅.keep _ _ nd ti.dict⟩ (c₅.keep _ _ nL hL) nx nd (On.gone f₃.st.tp hL0) (f₃.base hL0) k4 hsrc k5 k3 k6 k7 k8 k9 k10 (holds_ok k2) fun s₆ ρ₆ vs m f₆ hρ₆ TT=> ?_)
 ·exact (hρ' readN (by decide +kernel)).trans ((hnk readN (by decide +kernel)).trans hread)
 ·have e0:lk ρ' (nm "k") = .d (.int i):=hki
  exact bindI (evv (Φ:=Phi (n+1)) (B:=BB none) e0) (RR.dig i p hp)
 exact law_rest TP Hb GF MF RR.len noO noV hk hB f₆ (fun y q=>hρ₆ y q) TT nx nd nL hon hsl hm3 rm2 hQ
theorem law_call {fdV fdI fdA fdG fdM fd:FuncData} {bV bI bA bG bM body:List Stmt} (TP:Top prog w (On h₁) F) (Hb:Bas K h₁ C fI fV fA fG fM fdV bV) (IF:InitF h₁ fI fdI bI) (AF:AddF h₁ fA fdA bA) (GF:GetF h₁ fG fdG bG) (MF:ItemsF h₁ fM fdM bM)
  (hHead : ∀ h,On h₁ h->Glob h (nm "Headers") (.ref C)) (hkeep:keepIn K (.ref C)=true) (h1 : ∃ a o,sysModules<=a/\h₁.get? a=some o) (LI:FnIs (On h₁) fa fd [scriptN] body) (hgen:fd.scope.isGenerator=false) (hok:lawOk fd.scope.names body=true)
  {d dr:D} (RR:Runs (n+1) d dr tb) (rm:Room A (n+5)) {v:Value} (hon:On h₁ s.heap) (r:Rep [] s.heap v d) :
  codeAny (model prog w) A (.call (.ref fa) ⟨[v],[]⟩) (fun r s'=> ∃ v',r = .ok (.ret v')/\Ext s s'/\Rep [] s'.heap v' dr) s:=by
 obtain ⟨ρ,hA,noO,noV,hread,hk,hB⟩:=RR.a
 obtain ⟨o,ho,hdata⟩:=LI.at' _ hon
 have CA:CtxG prog w (On h₁) Vt F (Phi (n+1)) (BB none) GG (n+2):=ctxG_of TP Vt none fun u f ds d hv e=>(bb_none e).elim
 refine codeAny_call_cells (by have:=rm.dp;exact Nat.lt_of_add_right_lt this) ho hdata (LI.lim _ hon) (LI.cd _ hon) LI.bd (LI.bind [v] rfl) LI.clo (fun x hx=> ?_) (fun s₁ x=> ?_) LI.co hgen LI.kd
 ·have hp:x.1∈[scriptN]:=(List.of_mem_zip hx).1
  have hs:=List.all_eq_true.mp LI.ps _ hp
  rcases okS_hx hs with z|z
  ·exact .inl z
  ·refine ea11 (cellsFrom_has fd.scope.names (s.heap.objs.size+1) x.1 (mem_of_lookup z)) fun c hc=> ?_
   exact .inr ⟨z,by refine rwl hc ?_;rfl⟩
 have f:=call_frame (V:=Vt) (W:=[]) LI hon (fun a h=>by exact nomatch h) CA.top (.cons r .nil) rfl x
 generalize callEnvC fd s.heap.objs.size fa=env at f ⊢
 have rm4:Room (A.deeper env) (n+4):=rm.deeper env
 have rm2:Room (A.deeper env) (n+2):=⟨rm4.hh,by have:=rm4.dp;exact Nat.lt_of_lt_of_le (Nat.le_of_lt (Nat.le_of_lt this)) Nat.le.refl,by have:=rm4.un;exact H513 this⟩
 refine and2 hok fun hm1 hm2=> ?_
 have hb:=List.take_append_drop 7 body
 revert hb hm2
 generalize body.take 7=b₁ at hm1 ⊢
 generalize body.drop 7=b₂
 intro hm2 hb
 refine lwr hb ?_
 clear hb hok
 apply onC_el hm2;clear hm2;intro a b₂ hm2
 apply onC_el hm2;clear hm2;intro b rest hm2
 refine and2 hm2 fun hm2 hm3=> ?_
 refine sxs_app CA pLawA b₁ _ [] _ ρ s₁ _ hm1 rm2 f hA fun W' s₃ f₃=> ?_
 have f₃:=f₃.noW noO
 exact law_mid TP Hb IF AF GF MF hHead hkeep h1 RR hread noO noV hk hB CA f₃ hon (fun a ha=>f.slot a ha) hm2 hm3 rm4 rm2 fun v' s' x r=>⟨v',rfl,x,r⟩
end
theorem look_some {vals:List Value} : ∀ {ps:List Str} , vals.length=ps.length -> ∀ n∈ps,((ps.zip vals).lookup n).isNone=false:=by
 induction vals with
 | nil=>intro ps hl n hn;(rcases ps with _|⟨_,_⟩;(cases hn);(exact nomatch hl))
 | cons v vals ih=>
  intro ps hl n hn
  rcases ps with _|⟨p,ps⟩
  ·exact nomatch hl
  ·refine rwl List.zip_cons_cons (rwl List.lookup_cons ?_)
   rcases e:n==p with _|_
   ·exact ih (Nat.succ.inj hl) n ((List.mem_cons.mp hn).resolve_left fun q=>by rw [q,beq_self_eq_true] at e;exact nomatch e)
   ·rfl
theorem zip_look {vals:List Value} : ∀ {ps:List Str} {f:Str->Option Value},ps.Nodup->vals.length=ps.length->(∀ n∈ps,f n=(ps.zip vals).lookup n)->(ps.filterMap fun n=>(f n).map fun v=>(n,v))=ps.zip vals:=by
 induction vals with
 | nil=>intro ps f hn hl hf;(rcases ps with _|⟨_,_⟩;(rfl);(exact nomatch hl))
 | cons v vals ih=>
  intro ps f hn hl hf
  rcases ps with _|⟨p,ps⟩
  ·exact nomatch hl
  ·have h1:=hf p List.mem_cons_self
   rw [List.zip_cons_cons,List.lookup_cons,beq_self_eq_true] at h1
   refine rwl List.filterMap_cons (rwl h1 ?_)
   refine congrArg ((p,v) :: ·) (ih (List.nodup_cons.mp hn).2 (Nat.succ.inj hl) fun n hn'=> ?_)
   exact rwl (hf n (List.mem_cons_of_mem _ hn')) (rwl List.zip_cons_cons (rwl List.lookup_cons (rwl (show (n==p)=false from beq_eq_false_iff_ne.mpr fun q=>(List.nodup_cons.mp hn).1 (q▸hn')) rfl)))
noncomputable def plainB (fd:FuncData) (ps:List Str):Bool:=fd.params.posonlyargs.isEmpty&&fd.params.args.map (·.arg)==ps&&fd.params.vararg.isNone&&fd.params.kwonlyargs.isEmpty&&fd.params.kwarg.isNone&&fd.defaults == .none
theorem noneB {α:Type} {o:Option α} (h:o.isNone=true):o=none:=Option.isNone_iff_eq_none.mp h
theorem bind_plain {fd:FuncData} {ps:List Str} (h:plainB fd ps=true) (hn:ps.Nodup) (vals:List Value) (hl:vals.length=ps.length):bindArgs fd ⟨vals,[]⟩=pure (ps.zip vals):=by
 rcases fd with ⟨_,_,⟨po,ar,va,ko,kd,ka,df⟩⟩
 refine and6 h fun h1 h2 h3 h4 h5 h6=> ?_
 clear h
 obtain rfl:=nilB h1;obtain rfl:=eqB h2;obtain rfl:=noneB h3;obtain rfl:=nilB h4;obtain rfl:=noneB h5;obtain rfl:=eqB h6
 have hA:((ar.map (·.arg)).filter fun n=>(((ar.map (·.arg)).zip vals).lookup n).isNone)=[]:=List.filter_eq_nil_iff.mpr fun n h=>by refine rwl (look_some hl n h) ?_;decide
 have hB:=zip_look hn hl fun Z Z=>rfl
 refine (if_neg ?_).trans ((if_neg ?_).trans ?_)
 ·show ¬ (decide (vals.length>(ar.map Arg.arg).length)&&true)=true
  refine rwl hl ?_;simp
 ·show ¬ (!(((ar.map Arg.arg).take ((ar.map Arg.arg).length-(List.drop (0-(ar.map Arg.arg).length) []).length)).filter fun n=>(((ar.map Arg.arg).zip vals).lookup n).isNone).isEmpty)=true
  refine rwl List.drop_nil (rwl (show ([]:List Value).length=0 from rfl) (rwl (Nat.sub_zero _) (rwl List.take_length (rwl hA ?_))));decide
 ·show (forIn (m:=Sem) (((ar.map Arg.arg).drop _).zip (List.drop (0-(ar.map Arg.arg).length) ([]:List Value))) _ _ >>= _)=_
  rw [List.drop_nil];refine rwl List.zip_nil_right ?_
  show Sem.pure (((ar.map Arg.arg)++[]).filterMap fun n=>(((ar.map Arg.arg).zip vals).lookup n).map fun v=>(n,v))=_
  refine rwl (List.append_nil _) (rwl hB ?_);rfl
noncomputable def nodupB (ps:List Str):Bool:=decide ps.Nodup
noncomputable def fnAt (K:Frag) (a:Addr):Option (FuncData×List Stmt):=match K.lookup a with
 | some ⟨_,_,.func fd,_⟩=>(match fd.body with | .stmts b=>some (fd,b)|_=>none)
 | _=>none
theorem fnAt_get {K:Frag} {a:Addr} {fd:FuncData} {b:List Stmt} (e:fnAt K a=some (fd,b)):(∃ o,K.lookup a=some o/\o.data = .func fd)/\fd.body = .stmts b:=by
 unfold fnAt at e
 split at e
 ·rename_i h
  split at e
  ·rename_i hb;cases e;exact ⟨⟨_,h,rfl⟩,hb⟩
  ·exact nnE e
 ·exact nnE e
noncomputable def baseB (K:Frag) (fd:FuncData):Bool:=fd.closure.isEmpty&&fd.globals==mainGlobals&&fd.builtins==builtinsNs && !fd.scope.isCoroutine&&fd.scope.kind == .function&&fd.scope.names.all (fun x=> !(x.2 == .free))&&codeIn K fd.code fd.qualname
noncomputable def FK (K:Frag) (f:Str):Option Addr:=match nsIn K mainGlobals f with
 | some (some (.ref a))=>if (fnAt K a).isSome then some a else none
 | _=>none
noncomputable def progB (K:Frag) (ps:List Str) (test:FuncData->List Stmt->Bool) (a:Addr):Bool:=onSome (fnAt K a) fun p=>baseB K p.1&&plainB p.1 ps&&nodupB ps&&ps.all (okS p.1.scope.names)&&test p.1 p.2
section
variable {prog:Program} {w:World} {K:Frag} {h₁:Heap} {mg mb:Str->Option Value}
theorem baseB_get {fd:FuncData} (h:baseB K fd=true):fd.closure=[]/\fd.globals=mainGlobals/\fd.builtins=builtinsNs/\fd.scope.isCoroutine=false/\fd.scope.kind = .function/\fd.scope.names.all (fun x=> !(x.2 == .free))=true/\codeIn K fd.code fd.qualname=true:=by
 refine and7 h fun h1 h2 h3 h4 h5 h6 h7=>⟨nilB h1,eqB h2,eqB h3,notB h4,eqB h5,h6,h7⟩
theorem someE {α:Type} {o:Option α} {f:α->Bool} (h:onSome o f=true) : ∃ a,o=some a/\f a=true:=by
 rcases o with _|a
 ·exact nomatch h
 ·exact ⟨a,rfl,h⟩
theorem progB_get (X:K.In h₁) (hlim:h₁.NoLimit) {ps:List Str} {test:FuncData->List Stmt->Bool} {a:Addr} (h:progB K ps test a=true) : ∃ fd b,FnIs (On h₁) a fd ps b/\test fd b=true/\fnAt K a=some (fd,b):=by
 obtain ⟨⟨fd,b⟩,e,h⟩:=someE h
 refine and5 h fun hb hp hn hps ht=> ?_
 have hn:=of_decide_eq_true hn
 obtain ⟨⟨o,ho,hd⟩,hbody⟩:=fnAt_get e
 refine ea07 (baseB_get hb) fun b1 b2 b3 b4 b5 b6 b7=> ?_
 exact ⟨fd,b,fnIs_of (X _ _ ho) hd hlim (codeRec_of X b7) hbody (bind_plain hp hn) b1 b2 b3 b4 b5 b6 hn hps,ht,e⟩
set_option tactic.hygienic true in
theorem fk_get (X:K.In h₁) (G:h₁.Ns mainGlobals mg) {f:Str} {a:Addr} (e:FK K f=some a):mg f=some (.ref a) /\ ∃ o fd,h₁.get? a=some o/\o.data = .func fd:=by
 unfold FK at e
 split at e
 ·rename_i b hb
  split at e
  ·rename_i hs
   obtain rfl:=Option.some.inj e
   refine ea11 (Option.isSome_iff_exists.mp hs) fun p hp=> ?_
   obtain ⟨⟨o,ho,hd⟩,_⟩:=fnAt_get (b:=p.2) (fd:=p.1) hp
   exact ⟨mg_of X G hb,o,_,X _ _ ho,hd⟩
  ·exact nnE e
 ·exact nnE e
end
noncomputable def argB (fd:FuncData) (ps kw:List Str) (kwarg:Option Str):Bool:=fd.params.posonlyargs.isEmpty&&fd.params.args.map (·.arg)==ps&&fd.params.vararg.isNone&&fd.params.kwonlyargs.map (·.arg)==kw&&fd.params.kwarg.map (·.arg)==kwarg
theorem argL {x:Str} {xs:List Str} {l:List Arg} {P:List Arg->Prop} (h:l.map (·.arg)=x::xs) (k : ∀ an p l,l.map (·.arg)=xs->P (⟨x,an,p⟩::l)):P l:=by
 rcases l with _|⟨a,l⟩
 ·exact nomatch h
 ·cases a;cases (List.cons.inj h).1;exact k _ _ l (List.cons.inj h).2
theorem argN {l:List Arg} (h:l.map (·.arg)=[]):l=[]:=List.map_eq_nil_iff.mp h
theorem argO {o:Option Arg} {P:Option Arg->Prop} {k:Option Str} (h:o.map (·.arg)=k) (h0:k=none->P none) (h1 : ∀ x an p,k=some x->P (some ⟨x,an,p⟩)):P o:=by
 rcases o with _|a
 ·exact h0 h.symm
 ·cases a;exact h1 _ _ _ h.symm
theorem bind_conv {fd:FuncData} (h:argB fd [selfN,valueN] [nameN] none=true) (hd:fd.defaults = .none) (u v b:Value):bindArgs fd ⟨[u,v],[(nameN,b)]⟩=pure [(selfN,u),(valueN,v),(nameN,b)]:=by
 rcases fd with ⟨_,_,⟨po,ar,va,ko,kd,ka,df⟩⟩
 refine and5 h fun h1 h2 h3 h4 h5=> ?_
 clear h
 obtain rfl:=nilB h1;obtain rfl:=noneB h3;subst hd
 have h2:ar.map Arg.arg=_:=eqB h2;have h4:ko.map Arg.arg=_:=eqB h4;have h5:ka.map Arg.arg=_:=eqB h5
 apply argL h2;intro Z Z l h2;apply argL h2;intro Z Z l h2;obtain rfl:=argN h2
 apply argL h4;intro Z Z l h4;obtain rfl:=argN h4
 apply argO h5
 ·intro Z;kernel_rfl
 ·intro Z Z Z h;exact nnE h
theorem bind_init {h₁:Heap} {fd:FuncData} {Dd:Addr} {c:Value} {dd:Option Addr} {n:Nat} {sl:Array (Option Value)} (h:argB fd [selfN,initN] [] none=true) (hd:fd.defaults = .ref Dd) (hD:h₁.get? Dd=some ⟨c,dd,.seq #[.none] n,sl⟩)
  (M:Model) (A:Around) (Q:List (Str×Value)->Shared->Prop) (E:Value->Shared->Prop) (s:Shared) (u:Value) (hon:On h₁ s.heap) (q:Q [(selfN,u),(initN,.none)] s):wpAny M A (bindArgs fd ⟨[u],[]⟩) Q E s:=by
 rcases fd with ⟨_,_,⟨po,ar,va,ko,kd,ka,df⟩⟩
 refine and5 h fun h1 h2 h3 h4 h5=> ?_
 clear h
 obtain rfl:=nilB h1;obtain rfl:=noneB h3;subst hd
 have g2:ar.map Arg.arg=_:=eqB h2;have g4:ko.map Arg.arg=_:=eqB h4;have g5:ka.map Arg.arg=_:=eqB h5;clear h2 h4 h5
 apply argL g2;clear g2;intro Z Z l g2;apply argL g2;clear g2;intro Z Z l g2;obtain rfl:=argN g2;obtain rfl:=argN g4
 apply argO g5
 ·intro Z
  refine wpAny_bind (wpAny_pure ?_)
  exact wpAny_bind (wpAny_bind (wpAny_load (hon _ _ hD) (wpAny_pure (wpAny_of_eq (a:=[(selfN,u),(initN,.none)]) (by kernel_rfl) q))))
 ·intro Z Z Z h;exact nnE h
theorem wpEq {α:Type} {M:Model} {A:Around} {m m':Sem α} {Q:α->Shared->Prop} {E:Value->Shared->Prop} {s:Shared} (e:m=m') (h:wpAny M A m' Q E s):wpAny M A m Q E s:=e▸h
theorem bind_add {fd:FuncData} (h:argB fd [selfN,aNameN,aValueN] [] (some paramsN)=true) (hd:fd.defaults = .none)
  (M:Model) (A:Around) (Q:List (Str×Value)->Shared->Prop) (E:Value->Shared->Prop) (s:Shared) (u n v:Value) (q:Q [(selfN,u),(aNameN,n),(aValueN,v),(paramsN,.ref s.heap.objs.size)] { s with heap:=s.heap.push emptyDict }):wpAny M A (bindArgs fd ⟨[u,n,v],[]⟩) Q E s:=by
 rcases fd with ⟨_,_,⟨po,ar,va,ko,kd,ka,df⟩⟩
 refine and5 h fun h1 h2 h3 h4 h5=> ?_
 clear h
 obtain rfl:=nilB h1;obtain rfl:=noneB h3;subst hd
 have g2:ar.map Arg.arg=_:=eqB h2;have g4:ko.map Arg.arg=_:=eqB h4;have g5:ka.map Arg.arg=_:=eqB h5;clear h2 h4 h5
 apply argL g2;clear g2;intro Z Z l g2;apply argL g2;clear g2;intro Z Z l g2;apply argL g2;clear g2;intro Z Z l g2;obtain rfl:=argN g2;obtain rfl:=argN g4
 apply argO g5
 ·intro h;exact nomatch h
 ·intro x an p hx
  obtain rfl:=Option.some.inj hx
  refine wpEq (m':=do let d <- alloc { cls:= .type "dict", data:= .dict #[] };pure [(selfN,u),(aNameN,n),(aValueN,v),(paramsN,.ref d)]) (by kernel_rfl) ?_
  exact wpAny_bind (wpAny_alloc (wpAny_pure q))
noncomputable def etokN:Str:=nm "EXACT_TOKEN_TYPES"
noncomputable def progsB (K:Frag):Bool:=progs.all fun p=>onSome (FK K (nm p.1)) fun a=>progB K (p.2.1.map nm) (fun fd b=> !fd.scope.isGenerator&&mtSs p.2.2 fd.scope.names b) a
noncomputable def genB (K:Frag):Bool:=onSome (FK K (nm "_iter_escaped_chars")) fun a=>progB K [nAddr] (fun fd b=>fd.scope.isGenerator&&fd.scope.names.all (fun x=> !(x.2 == .cell))) a
noncomputable def GenIs (K:Frag):Prop:= ∃ a fd b,FK K (nm "_iter_escaped_chars")=some a/\fnAt K a=some (fd,b)/\GenOk fd.scope.names b
noncomputable def isNN (v:Option (Option Value)):Bool:=match v with|some o=>o.isNone|none=>false
theorem isNN_is {v:Option (Option Value)} (h:isNN v=true):v=some none:=by
 rcases v with _|o
 ·exact nomatch h
 ·exact rwl (noneB (o:=o) h) rfl
noncomputable def freeB (K:Frag) (f:Str):Bool:=isNN (nsIn K mainGlobals f)
noncomputable def bltB (K:Frag):Bool:=[nm "len", nm "sum", nm "max", nm "sorted", nm "str", nm "int", nm "range", nm "enumerate", nm "type", nm "list"].all (freeB K)
noncomputable def intIs (v:Option (Option Value)) (i:Int):Bool:=match v with|some (some (.int j _))=>j==i|_=>false
noncomputable def ntB (K:Frag):Bool:=intIs (nsIn K mainGlobals (nm "NT_OFFSET")) 256
noncomputable def etB (K:Frag) (Da:Addr) (es:Array DictEntry):Bool:=etok.all (fun p=>intIs (nsIn K Da (nm p.1)) p.2)&&[nm "a", nm "b", nm "c", nm "d", nm "A", nm "\\"].all (fun u=>isNN (nsIn K Da u)) &&
   es.toList.all (fun e=> !e.refKey&&(match e.key with | .str k _=> !(k.length==2&&k.cps[0]? == some 92)|_=>true))
section
variable {prog:Program} {w:World} {K:Frag} {h₁:Heap} {mg mb:Str->Option Value}
theorem intIs_get {v:Option (Option Value)} {i:Int} (h:intIs v i=true) : ∃ t,v=some (some (.int i t)):=by
 rcases v with _|o
 ·exact nomatch h
 ·rcases o with _|x
  ·exact nomatch h
  ·rcases x with _|_|_|_|⟨j,t⟩|_|_|_|_|_|_
   case int=>exact ⟨t,by exact rwl (eqB (a:=j) h) rfl⟩
   all_goals exact nomatch h
theorem freeB_get {f:Str} (h:freeB K f=true):nsIn K mainGlobals f=some none:=isNN_is h
set_option tactic.hygienic true in
theorem et_get {Da:Addr} {es:Array DictEntry} {n:Nat} (hl:K.lookup Da=some ⟨.type "dict", none,.dict es n,#[]⟩) (h:etB K Da es=true) (u:Str) (q d:PyData) (e:etokB (.str u) q=some d):(∃ i t,nsIn K Da u=some (some (.int i t))/\d = .int i)\/(nsIn K Da u=some none/\d=q):=by
 refine and3 h fun h1 h2 h3=> ?_
 simp only [etokB] at e
 split at e
 ·rename_i p hp
  obtain rfl:=Option.some.inj e
  have hm:=List.mem_of_find?_eq_some hp
  have hk:=List.find?_some hp
  rw [beq_iff_eq] at hk
  refine ea11 (intIs_get (List.all_eq_true.mp h1 p hm)) fun t ht=> ?_
  refine lwr hk ?_
  exact .inl ⟨_,t,ht,rfl⟩
 ·split at e
  ·rename_i hc
   obtain rfl:=Option.some.inj e
   right
   refine ⟨?_,rfl⟩
   rw [Bool.and_eq_true] at hc
   have hc:=hc.2
   simp only [Bool.or_eq_true,beq_iff_eq,Bool.and_eq_true] at hc
   have six : ∀ u∈[nm "a", nm "b", nm "c", nm "d", nm "A", nm "\\"],nsIn K Da u=some none:=fun u hu=>by
    exact isNN_is (List.all_eq_true.mp h2 u hu)
   rcases hc with (((((rfl|rfl)|rfl)|rfl)|rfl)|rfl)|⟨l2,l0⟩
   ·exact six _ (by decide)
   ·exact six _ (by decide)
   ·exact six _ (by decide)
   ·exact six _ (by decide)
   ·exact six _ (by decide)
   ·exact six _ (by decide)
   ·unfold nsIn
    refine rwl hl ?_
    dsimp only
    have nf:es.toList.find? (·.key.isStr u)=none:=by
     rw [List.find?_eq_none]
     intro en hen
     have:=List.all_eq_true.mp h3 en hen
     rw [Bool.and_eq_true] at this
     intro z
     have h4:=this.2
     rcases hk:en.key with _|_|_|_|_|_|⟨k,t⟩|_|_|_|_
     case str=>
      rw [hk] at h4 z
      have:k=u:=by
       have z':(k==u)=true:=z
       exact beq_iff_eq.mp z'
      subst this
      simp [l2,l0] at h4
     all_goals (rw [hk] at z;cases z)
    have nr:es.toList.any (·.refKey)=false:=by
     rw [List.any_eq_false]
     intro en hen
     have:=List.all_eq_true.mp h3 en hen
     simp only [Bool.and_eq_true,Bool.not_eq_true'] at this
     refine rwl this.1 ?_;decide
    refine rwl nf ?_
    dsimp only
    refine rwl nr ?_
    rfl
  ·cases e
theorem top_K (X:K.In h₁) (G:h₁.Ns mainGlobals mg) (Gb:h₁.Ns builtinsNs mb) (hlim:h₁.NoLimit) (hbl : ∀ x:Str,x ≠ "__name__" -> mb x=bootBuiltins x) {Da:Addr} {es:Array DictEntry}
  (c1:progsB K=true) (c2:genB K=true) (c2':GenIs K) (c3:bltB K=true) (c4:ntB K=true) {n:Nat} (c5:etB K Da es=true) (c6:nsIn K mainGlobals etokN=some (some (.ref Da))) (c7:K.lookup Da=some ⟨.type "dict", none,.dict es n,#[]⟩) (c8:KeysLit w.params es.toList) (c9:(Da==sysModules)=false):Top prog w (On h₁) (FK K) where
 top:=topS_of G Gb (fun f a e=>fk_get X G e) fun f v e=>by
  refine ea03 (blt_names e) fun h1 h2 h3=> ?_
  refine ⟨mg_none_of X G (freeB_get (List.all_eq_true.mp c3 f ?_)),(hbl f h2).trans h3⟩
  simp only [List.mem_cons,List.not_mem_nil,or_false] at h1 ⊢
  rcases h1 with q|q|q|q|q|q|q|q<;>simp [q]
 base:=⟨h₁,fun Z=>Iff.rfl⟩
 fns:=fun p hp=>by
  obtain ⟨a,ha,h⟩:=someE (List.all_eq_true.mp c1 p hp)
  obtain ⟨fd,b,hI,ht,_⟩:=progB_get X hlim h
  exact ⟨a,fd,b,ha,hI,notB (andB ht).1,(andB ht).2⟩
 gen:=by
  obtain ⟨a,ha,h⟩:=someE c2
  obtain ⟨fd,b,hI,ht,e⟩:=progB_get X hlim h
  refine ea33 c2' fun a' fd' b' ha' e' k=> ?_
  cases ha.symm.trans ha'
  cases e.symm.trans e'
  exact ⟨a,fd,b,ha,hI,(andB ht).1,k,(andB ht).2⟩
 dg:=fun p q d e=>by
  exact dg_of X G (mg_of X G c6) c7 c8 c9 (fun u q d e=>et_get c7 c5 u q d e) p q d e
 gc:=fun h hT=>by
  obtain ⟨t,ht⟩:=intIs_get c4
  exact ⟨t,.inl ⟨mg,G.keeps hT,mg_of X G ht⟩⟩
end
noncomputable def refAt (v:Option (Option Value)):Option Addr:=match v with|some (some (.ref a))=>some a|_=>none
noncomputable def isFun (K:Frag) (a:Addr):Bool:=typeIn K (.ref a)==some (.type "function")
noncomputable def methB (K:Frag) (C:Addr) (n:Str) (f:Addr):Bool:=refAt (findIn K (.ref C) n)==some f&&isFun K f
noncomputable def isBl (v:Option (Option Value)) (n:String):Bool:=match v with|some (some (.builtin b))=>b==n|_=>false
theorem isBl_is {v:Option (Option Value)} {n:String} (h:isBl v n=true):v=some (some (.builtin n)):=by
 rcases v with _|o
 ·exact nomatch h
 ·rcases o with _|x
  ·exact nomatch h
  ·rcases x with _|_|_|_|_|_|_|_|_|b|_
   case builtin=>exact rwl (eqB (a:=b) h) rfl
   all_goals exact nomatch h
noncomputable def hdB (K:Frag) (C fI fV fA fG fM:Addr):Bool:=makesIn K C&&methB K C "__init__" fI&&methB K C convN fV&&methB K C addN fA&&methB K C getAllN fG&&methB K C itemsN fM&&plainGet K C headersN&&hasDictIn K C &&
 isNN (findIn K (.ref C) headersN)&&plainOver K C&&isNN (takerIn K C headersN)&&isBl (findIn K (.ref C) "__setattr__") "object.__setattr__"
inductive ReOk (K:Frag) (g:Str):Prop
 | mk (P C p t1 t2 t3 vs n) (h0:refAt (nsIn K mainGlobals g)=some P) (h1:K.lookup P=some ⟨.type "re.Pattern", none,.fields ⟨[p,.int 32 t1,.int 0 t2,.none,.none,.ref C,.int 0 t3]⟩,⟨[]⟩⟩) (h2:K.lookup C=some ⟨.type "tuple", none,.seq ⟨vs⟩ n,⟨[]⟩⟩) (h3:okChars.all (failsOn vs)=true):ReOk K g
noncomputable def BodyIs (K:Frag) (a:Addr) (P:Sc->List Stmt->Prop):Prop:= ∃ fd b,fnAt K a=some (fd,b)/\P fd.scope.names b
theorem bodyIs {K:Frag} {a:Addr} {P:Sc->List Stmt->Prop} (h:BodyIs K a P) {fd:FuncData} {b:List Stmt} (e:fnAt K a=some (fd,b)):P fd.scope.names b:=by
 refine ea22 h fun fd' b' e' k=> ?_
 cases e.symm.trans e'
 exact k
noncomputable def methFn (K:Frag) (a:Addr) (test:FuncData->List Stmt->Bool):Bool:=onSome (fnAt K a) fun p=>baseB K p.1 && !p.1.scope.isGenerator&&test p.1 p.2
noncomputable def noneDef (fd:FuncData):Bool:=fd.defaults == .none
noncomputable def convT (fd:FuncData) (b:List Stmt):Bool:=argB fd [selfN,valueN] [nameN] none&&noneDef fd&&okS fd.scope.names selfN&&okS fd.scope.names valueN&&okS fd.scope.names nameN
noncomputable def initT (fd:FuncData) (b:List Stmt):Bool:=argB fd [selfN,initN] [] none&&okS fd.scope.names selfN&&okS fd.scope.names initN
noncomputable def DefIs (K:Frag) (a:Addr):Prop:= ∃ fd b D c dd n sl,fnAt K a=some (fd,b)/\fd.defaults = .ref D/\K.lookup D=some ⟨c,dd,.seq #[.none] n,sl⟩
noncomputable def addT (fd:FuncData) (b:List Stmt):Bool:=argB fd [selfN,aNameN,aValueN] [] (some paramsN)&&noneDef fd&&okS fd.scope.names selfN&&okS fd.scope.names aNameN&&okS fd.scope.names aValueN&&okS fd.scope.names paramsN
noncomputable def getT (fd:FuncData) (b:List Stmt):Bool:=plainB fd [selfN,nameN]&&okS fd.scope.names selfN&&okS fd.scope.names nameN
noncomputable def itemsT (fd:FuncData) (b:List Stmt):Bool:=plainB fd [selfN]&&okS fd.scope.names selfN
section
variable {prog:Program} {w:World} {K:Frag} {h₁:Heap} {mg mb:Str->Option Value} {C fI fV fA fG fM:Addr}
theorem refAt_get {v:Option (Option Value)} {a:Addr} (h:refAt v=some a):v=some (some (.ref a)):=by
 rcases v with _|o
 ·exact nnE h
 ·rcases o with _|x
  ·exact nnE h
  ·rcases x with _|_|_|_|_|_|_|_|_|_|b
   case ref=>obtain rfl:=Option.some.inj h;rfl
   all_goals exact nnE h
theorem methB_get {n:Str} {f:Addr} (h:methB K C n f=true):findIn K (.ref C) n=some (some (.ref f))/\typeIn K (.ref f)=some (.type "function"):=⟨refAt_get (eqB (andB h).1),eqB (andB h).2⟩
theorem hdB_get (h:hdB K C fI fV fA fG fM=true):HdK K C fI fV fA fG fM:=by
 refine and6 h fun h h8 h9 h10 h11 h12=>and7 h fun h1 h2 h3 h4 h5 h6 h7=> ?_
 exact ⟨h1,(methB_get h2).1,(methB_get h2).2,(methB_get h3).1,(methB_get h3).2,(methB_get h4).1,(methB_get h4).2,(methB_get h5).1,(methB_get h5).2,(methB_get h6).1,(methB_get h6).2,h7,h8,isNN_is h9,h10,isNN_is h11,isBl_is h12⟩
theorem reB_get (X:K.In h₁) (G:h₁.Ns mainGlobals mg) {g:Str} (h:ReOk K g):ReTop (On h₁) g:=by
 obtain ⟨P,Cc,p,t1,t2,t3,vs,n,hP,hl,hl',h⟩:=h
 exact ⟨P,_,_,_,_,_,vs,n,fun h hT=>⟨.inl ⟨mg,G.keeps hT,mg_of X G (refAt_get hP)⟩,hT _ _ (X _ _ hl),hT _ _ (X _ _ hl')⟩,fun c hc=>List.all_eq_true.mp h c hc⟩
theorem methFn_get (X:K.In h₁) (hlim:h₁.NoLimit) {a:Addr} {test:FuncData->List Stmt->Bool} (h:methFn K a test=true) : ∃ fd b,FnG h₁ a fd b/\test fd b=true/\fnAt K a=some (fd,b):=by
 obtain ⟨⟨fd,b⟩,e,h⟩:=someE h
 refine and3 h fun hb hg ht=> ?_
 obtain ⟨⟨o,ho,hd⟩,hbody⟩:=fnAt_get e
 refine ea07 (baseB_get hb) fun b1 b2 b3 b4 b5 b6 b7=> ?_
 exact ⟨fd,b,⟨⟨o,X _ _ ho,hd⟩,hlim,codeRec_of X b7,hbody,b1,b2,b3,b4,notB hg,b5,b6⟩,ht,e⟩
theorem noneDef_get {fd:FuncData} (h:noneDef fd=true):fd.defaults = .none:=eqB h
end
section
variable {prog:Program} {w:World} {K:Frag} {h₁:Heap} {mg mb:Str->Option Value} {C fI fV fA fG fM Da fa:Addr} {A:Around} {s:Shared} {n:Nat} {tb:Tab}
theorem law_K (X:K.In h₁) (G:h₁.Ns mainGlobals mg) (Gb:h₁.Ns builtinsNs mb) (hlim:h₁.NoLimit) (hbl : ∀ x:Str,x ≠ "__name__" -> mb x=bootBuiltins x) {es:Array DictEntry}
  (c1:progsB K=true) (c2:genB K=true) (c2':GenIs K) (c3:bltB K=true) (c4:ntB K=true) {n₀:Nat} (c5:etB K Da es=true) (c6:nsIn K mainGlobals etokN=some (some (.ref Da))) (c7:K.lookup Da=some ⟨.type "dict", none,.dict es n₀,#[]⟩) (c8:KeysLit w.params es.toList) (c9:(Da==sysModules)=false)
  (cH:hdB K C fI fV fA fG fM=true) (r1:ReOk K re1N) (r2:ReOk K re2N) (cV:methFn K fV convT=true) (dV:BodyIs K fV ConvOk) (dI:BodyIs K fI InitOk) (dA:BodyIs K fA AddOk) (dG:BodyIs K fG GetOk) (dM:BodyIs K fM ItemsOk) (cI:methFn K fI initT=true) (dD:DefIs K fI) (cA:methFn K fA addT=true) (cG:methFn K fG getT=true) (cM:methFn K fM itemsT=true)
  (cHead:refAt (nsIn K mainGlobals (nm "Headers"))=some C) (ck:keepIn K (.ref C)=true) (hsys:(K.any fun p=>decide (sysModules<=p.1)&&(K.lookup p.1).isSome)=true) {fd:FuncData} {body:List Stmt} (LI:FnIs (On h₁) fa fd [scriptN] body) (hgen:fd.scope.isGenerator=false) (hok:lawOk fd.scope.names body=true)
  {d dr:D} (RR:Runs (n+1) d dr tb) (rm:Room A (n+5)) {v:Value} (hon:On h₁ s.heap) (r:Rep [] s.heap v d) :
  codeAny (model prog w) A (.call (.ref fa) ⟨[v],[]⟩) (fun r s'=> ∃ v',r = .ok (.ret v')/\Ext s s'/\Rep [] s'.heap v' dr) s:=by
 have TP:Top prog w (On h₁) (FK K):=top_K X G Gb hlim hbl c1 c2 c2' c3 c4 c5 c6 c7 c8 c9
 obtain ⟨fdV,bV,FV,tV,eV⟩:=methFn_get X hlim cV
 obtain ⟨fdI,bI,FI,tI,eI⟩:=methFn_get X hlim cI
 obtain ⟨fdA,bA,FA,tA,eA⟩:=methFn_get X hlim cA
 obtain ⟨fdG,bG,FG,tG,eG⟩:=methFn_get X hlim cG
 obtain ⟨fdM,bM,FM,tM,eM⟩:=methFn_get X hlim cM
 refine and5 tV fun v2 v3 v4 v5 v6=>and3 tI fun i2 i4 i5=>and6 tA fun a2 a3 a4 a5 a6 a7=>and3 tG fun g2 g3 g4=>and2 tM fun m2 m3=> ?_
 have glob : ∀ f v,bootBuiltins f=some v->f≠nm "__name__" -> freeB K f=true -> ∀ h,On h₁ h->Glob h f v:=fun f v hb hn hf h hT=> .inr ⟨mg,mb,G.keeps hT,mg_none_of X G (freeB_get hf),Gb.keeps hT,(hbl f hn).trans hb⟩
 have fr : ∀ f∈[nm "len", nm "sum", nm "max", nm "sorted", nm "str", nm "int", nm "range", nm "enumerate", nm "type", nm "list"],freeB K f=true:=fun f hf=>List.all_eq_true.mp c3 f hf
 have Hb:Bas K h₁ C fI fV fA fG fM fdV bV:=by
  refine ⟨⟨?_,?_,?_,reB_get X G r1,reB_get X G r2⟩,X,hdB_get cH,⟨FV,bodyIs dV eV,bind_conv v2 (noneDef_get v3),by simp [v4,v5,v6]⟩⟩
  ·exact glob typeN _ (by decide +kernel) (by decide +kernel) (fr _ (by simp [typeN]))
  ·exact glob strN _ (by decide +kernel) (by decide +kernel) (fr _ (by simp [strN]))
  ·exact glob (nm "list") _ (by decide +kernel) (by decide +kernel) (fr _ (by decide))
 have IF:InitF h₁ fI fdI bI:=by
  obtain ⟨fd',b',Dd,c,dd,n',sl,e',hDd,hl⟩:=dD
  cases eI.symm.trans e'
  exact ⟨FI,bodyIs dI eI,fun M A Q E s u hon q=>bind_init i2 hDd (X _ _ hl) M A Q E s u hon q,by simp [i4,i5]⟩
 have AF:AddF h₁ fA fdA bA:=⟨FA,bodyIs dA eA,fun M A Q E s u n v q=>bind_add a2 (noneDef_get a3) M A Q E s u n v q,by simp [a4,a5,a6,a7]⟩
 have GF:GetF h₁ fG fdG bG:=⟨FG,bodyIs dG eG,fun u v=>bind_plain g2 (by decide +kernel) [u,v] rfl,by simp [g3,g4]⟩
 have MF:ItemsF h₁ fM fdM bM:=⟨FM,bodyIs dM eM,fun u=>bind_plain m2 (List.pairwise_singleton _ _) [u] rfl,m3⟩
 have h1 : ∃ a o,sysModules<=a/\h₁.get? a=some o:=by
  obtain ⟨p,hp,hc⟩:=List.any_eq_true.mp hsys
  rw [Bool.and_eq_true,decide_eq_true_eq] at hc
  obtain ⟨o,ho⟩:=Option.isSome_iff_exists.mp hc.2
  exact ⟨p.1,o,hc.1,X _ _ ho⟩
 exact law_call TP Hb IF AF GF MF (fun h hT=> .inl ⟨mg,G.keeps hT,mg_of X G (refAt_get cHead)⟩) ck h1 LI hgen hok RR rm hon r
end
theorem wellAll_rep {P:Params} {h:Heap} : ∀ {ns:List Int} {vs:List Value},WellAll P h vs (ofPys (ns.map .int))->RepL [] h vs (ns.map .int)
 | [],_,w=>by
  cases w;exact .nil
 | n::ns,_,w=>by
  cases w with
  | cons a r=>
   cases a with
   | int _ t=>exact .cons (.int n t) (wellAll_rep r)
theorem well_rep {P:Params} {h:Heap} {ns:List Int} {v:Value} (w:Well P h v (ofPy (.list (ns.map .int)))):Rep [] h v (.list (ns.map .int)):=by
 cases w with
 | list e r=>exact .list (n:=0) (by simp) e (wellAll_rep r)
end Mine
namespace Mine
open PySem
theorem lk_self {ρ:Loc} {x:Str} {b:Bd}:lk (upd ρ x b) x=b:=by exact rwl (lk_upd _ _ _ _) (rwl (if_pos (beq_self_eq_true _)) rfl)
theorem lk_ne {ρ:Loc} {x y:Str} {b:Bd} (h:(x==y)=false):lk (upd ρ x b) y=lk ρ y:=by rw [lk_upd,if_neg (by refine rwl h ?_;decide)]
theorem lkU {ρ ρ':Loc} {x y:Str} {b c:Bd} (h:upd ρ x b=ρ') (q:(x==y)=false) (k:lk ρ y=c):lk ρ' y=c:=h▸(lk_ne q).trans k
theorem lkS {ρ ρ':Loc} {x:Str} {b:Bd} (h:upd ρ x b=ρ'):lk ρ' x=b:=h▸lk_self
theorem hide_d {ρ:Loc} {xs:List Str} {y:Str} {d:D} (h:lk ρ y = .d d) (hy:xs.contains y=false):lk (hide xs ρ) y = .d d:=by
 refine rwl (lk_hide _ _ _) (rwl (if_neg (by simpa using hy)) (rwl h ?_));rfl
theorem hide_u {ρ:Loc} {xs:List Str} {y:Str} {u:Value} (h:lk ρ y = .v u) (hy:xs.contains y=false):lk (hide xs ρ) y = .v u:=by
 refine rwl (lk_hide _ _ _) (rwl (if_neg (by simpa using hy)) (rwl h ?_));rfl
section
variable {Φ B:Fns} {Γ:Gens} {ρ:Loc}
theorem compRun_T {α:Type} {F:D->Option (Option D)} {f:α->D} {p:α->Bool} {g:α->D} {as:List α} (h : ∀ a∈as,F (f a)=some (if p a then some (g a) else none)):compRun F (as.map f)=some ((as.filter p).map g):=by
 induction as with
 | nil=>rfl
 | cons a r ih=>
  have ih:=ih fun y hy=>h y (List.mem_cons_of_mem _ hy)
  have e:=h a List.mem_cons_self
  show (match F (f a) with|some (some y)=>(compRun F (r.map f)).map (y :: ·)|some none=>compRun F (r.map f)|none=>none)=_
  refine rwl e (rwl List.filter_cons (rwl ih ?_))
  rcases p a with _|_<;>rfl
theorem compRun_A {α:Type} {F:D->Option (Option D)} {f:α->D} {g:α->D} {as:List α} (h : ∀ a∈as,F (f a)=some (some (g a))):compRun F (as.map f)=some (as.map g):=by
 have:=compRun_T (p:=fun Z=>true) h
 rwa [List.filter_eq_self.mpr fun Z Z=>rfl] at this
theorem rng_map (n:Nat):rngD n=(List.range n).map fun (i:Nat)=>PyData.int i:=rfl
theorem szR {n:Nat} (h:n<=1000):(rngD n).length<=szL:=by refine rwl (rng_map _) (rwl (List.length_map _) (rwl List.length_range ?_));exact Nat.le_trans h (by decide)
theorem rngI {n:Nat} (h:n<=1000):0<=(n:Int)/\(n:Int)<=1000:=⟨by exact Int.natCast_nonneg _,by exact Nat.ToInt.of_le rfl rfl h⟩
theorem ifI {t:Bool} {o:Option D} {d:D} (h:t=true->o=some d):(if t=true then o.map some else some none)=some (if t then some d else none):=by
 rcases t with _|_
 ·rfl
 ·exact mapI (h rfl)
theorem ev_map {elt it:ME} {x:Str} {src:D} {xs:List D} (g:D->D) (hit:ev Φ B it ρ=some src) (hs:items? src=some xs) (hl:xs.length<=szL) (h : ∀ d∈xs,ev Φ B elt (upd (hide [x] ρ) x (.d d))=some (g d)) :
  ev Φ B (.comp elt (.n x) false it .nil) ρ=some (.list (xs.map g)):=
 bindI hit (bindI hs ((if_pos hl).trans (mapI ((congrArg _ (List.map_id _).symm).trans (compRun_A (f:=id) fun d hd=>bindI rfl (bindI rfl (mapI (h d hd))))))))
theorem ev_mapR {elt it:ME} {x:Str} {n:Nat} (g:Nat->D) (hit:ev Φ B it ρ=some (.int n)) (hl:n<=1000) (h : ∀ i<n,ev Φ B elt (upd (hide [x] ρ) x (.d (.int i)))=some (g i)) :
  ev Φ B (.comp elt (.n x) true it .nil) ρ=some (.list ((List.range n).map g)):=
 bindI hit (bindI (if_pos (rngI hl)) ((if_pos (szR hl)).trans (mapI (compRun_A fun i hi=>bindI rfl (bindI rfl (mapI (h i (List.mem_range.mp hi))))))))
theorem ev_filterR {elt it:ME} {cs:MEs} {x:Str} {n:Nat} (p:Nat->Bool) (g:Nat->D) (hit:ev Φ B it ρ=some (.int n)) (hl:n<=1000) (hp : ∀ i<n,evA Φ B cs (upd (hide [x] ρ) x (.d (.int i)))=some (p i)) (h : ∀ i<n,p i=true->ev Φ B elt (upd (hide [x] ρ) x (.d (.int i)))=some (g i)) :
  ev Φ B (.comp elt (.n x) true it cs) ρ=some (.list (((List.range n).filter p).map g)):=
 bindI hit (bindI (if_pos (rngI hl)) ((if_pos (szR hl)).trans (mapI (compRun_T fun i hi=>bindI rfl (bindI (hp i (List.mem_range.mp hi)) (ifI (h i (List.mem_range.mp hi))))))))
variable {a b c e:ME} {x y z d:D} {t:Bool}
theorem v_var {x:String} {d:D} (h:lk ρ (nm x) = .d d):ev Φ B (vr x) ρ=some d:=by
 show (match lk ρ (nm x) with | .d d=>some d|_=>none)=_
 exact rwl h rfl
theorem v_c (d:D):ev Φ B (.c d) ρ=some d:=rfl
theorem v_bin {op:Operator} (ha:ev Φ B a ρ=some x) (hb:ev Φ B b ρ=some y) (h:binD op x y=some z):ev Φ B (.bin op a b) ρ=some z:=bindI ha (bindI hb h)
noncomputable def isOwn:ME->Bool
 | .own _=>true
 | _=>false
theorem own1_ne {r:Option D} (h:isOwn a=false):own1 a ρ r=r:=by rcases a with _|_|_|_|_|_|_|_|_|_|_|_|_|_|_|_|_|_|_|_|_<;>first|rfl|cases h
theorem v_blt {f:Str} (ha:ev Φ B a ρ=some x) (h:B f [x]=some z) (hn:isOwn a=false:=by rfl):ev Φ B (.blt f a) ρ=some z:=bindI ((own1_ne hn).trans ha) h
theorem v_idx (ha:ev Φ B a ρ=some x) (hb:ev Φ B b ρ=some y) (h:idxD x y=some z) (hn:isOwn a=false:=by rfl):ev Φ B (.idx a b) ρ=some z:=bindI ((own1_ne hn).trans ha) (bindI hb h)
end
end Mine
namespace Mine
open PySem
theorem seqIx_nat {i n:Nat} (h:i<n):seqIndex? (i:Int) n=some i:=by
 unfold seqIndex?
 have h1 : ¬ ((i:Int)<0):=by exact Int.not_ofNat_neg _
 have h2:(i:Int)<n:=by exact Int.ofNat_lt.2 h
 simp [h1,h2]
theorem seqIx_neg {k n:Nat} (h:k<n):seqIndex? (-1-(k:Int)) n=some (n-1-k):=by
 unfold seqIndex?
 have h1:(-1-(k:Int))<0:=by exact H438
 have h2:(-1-(k:Int))+n<n:=by exact H439 h1
 have h3:0<=(-1-(k:Int))+n:=by exact H440 h
 have h4:(-1-(k:Int)+n).toNat=n-1-k:=by exact H212
 simp only [h1,if_true,h2,h3,decide_true,Bool.and_self,h4]
theorem idx_nat {ds:List D} {i:Nat} (h:i<ds.length) (hl:ds.length<=szL):idxD (.list ds) (.int i)=ds[i]? := by
 unfold idxD
 have:szL=100000:=rfl
 dsimp only
 refine rwl (if_pos ⟨hl,by exact Int.NonNeg.mk (_+Nat.succ 9223372036854775807),by exact Int.lt_trans (Int.ofNat_lt.2 h) (i63 hl rfl)⟩) (rwl (seqIx_nat h) ?_)
 rfl
theorem idx_neg {ds:List D} {k:Nat} (h:k<ds.length) (hl:ds.length<=szL):idxD (.list ds) (.int (-1-k))=ds[ds.length-1-k]? := by
 unfold idxD
 have:szL=100000:=rfl
 dsimp only
 refine rwl (if_pos ⟨hl,by exact H442 this hl h,by exact H443⟩) (rwl (seqIx_neg h) ?_)
 rfl
noncomputable def clp:Option Int->Nat->Nat->Nat
 | none,d,_=>d
 | some i,_,n=>if i<0 then (i+n).toNat else min i.toNat n
noncomputable def clipI (v:Option Int) (d n:Int):Int:=match v with
 | none=>d
 | some i=>max 0 (min (if i<0 then i+n else i) n)
theorem pick_eq {α:Type} (xs:List α) (lo hi:Option Int):pick xs lo hi none=(xs.take (clp hi xs.length xs.length)).drop (clp lo 0 xs.length):=by
 have hb : ∀ (v:Option Int) (d:Nat),d<=xs.length->clipI v d xs.length=(clp v d xs.length:Nat)/\clp v d xs.length<=xs.length:=by
  intro v d hd
  rcases v with _|i
  ·exact ⟨rfl,hd⟩
  ·unfold clp clipI
   by_cases q:i<0
   ·simp only [q,if_true];constructor<;>(first|exact H421 q|exact H420 q)
   ·simp only [q,if_false];constructor<;>(first|exact H422 q|exact Nat.min_le_right _ _)
 refine ea02 (hb lo 0 (Nat.zero_le _)) fun e1 l1=> ?_
 refine ea02 (hb hi xs.length (Nat.le_refl _)) fun e2 l2=> ?_
 have h:sliceIx lo hi none xs.length=(List.range (clp hi xs.length xs.length-clp lo 0 xs.length)).map fun k=>clp lo 0 xs.length+k:=by
  show PySem.sliceRange (clipI lo ((0:Nat):Int) xs.length) (clipI hi xs.length xs.length) 1=_
  refine rwl e1 (rwl e2 ?_)
  unfold PySem.sliceRange
  have p1:((1:Int)>0)=True:=by simp
  simp only [p1,if_true]
  have g : ∀ a b:Nat,(if (a:Int)<(b:Int) then ((b:Int)-(a:Int)+1-1)/1 else (0:Int)).toNat=b-a:=by
   intro a b
   split<;>(first|exact H423|exact H424 (by assumption))
  refine rwl (g _ _) ?_
  apply List.map_congr_left
  intro k Z
  exact H216
 unfold pick
 refine rwl h (rwl List.filterMap_map ?_)
 apply List.ext_getElem?
 intro i
 generalize hb':clp hi xs.length xs.length=b at *
 generalize ha':clp lo 0 xs.length=a at *
 have key : ∀ m,a+m<=xs.length->((List.range m).filterMap ((fun i=>xs[i]?) ∘ fun k=>a+k))=(xs.drop a).take m:=by
  intro m
  induction m with
  | zero=>intro Z;simp
  | succ m ih=>
   intro hm
   refine rwl List.range_succ (rwl List.filterMap_append (rwl (ih (by exact Nat.le_of_succ_le hm)) (rwl List.take_add_one ?_)))
   congr 1
   refine rwl List.getElem?_drop ?_
   have:xs[a+m]? = some (xs[a+m]'(by exact hm)):=List.getElem?_eq_getElem _
   simp [this]
 by_cases q:a<=b
 ·exact rwl (key (b-a) (by exact H219 l1 l2)) (rwl List.drop_take rfl)
 ·have:b-a=0:=by exact Nat.sub_eq_zero_of_le (Nat.le_of_not_ge q)
  refine rwl this ?_
  rw [List.drop_of_length_le (by refine rwl List.length_take ?_;exact Nat.le_trans (Nat.min_le_left _ _) (Nat.le_of_not_ge q))]
  rfl
theorem sl_list {ds:List D} {lo hi:D} {l h:Option Int} (hl:partD lo=some l) (hh:partD hi=some h) (hs:ds.length<=szL):slD (.list ds) lo hi .none=some (.list ((ds.take (clp h ds.length ds.length)).drop (clp l 0 ds.length))):=by
 unfold slD
 have hn:partD .none=some none:=rfl
 simp only [hl,hh,hn,Option.bind_eq_bind,Option.bind_some]
 exact rwl (if_pos ⟨by simp,hs⟩) (rwl (pick_eq _ _ _) rfl)
end Mine
namespace Mine
open PySem
noncomputable def L (c:Nat):Str:=⟨#[if c%2=0 then 97+c/2 else 65+c/2]⟩
noncomputable def inv (c:Nat):Nat:=if c%2=0 then c+1 else c-1
noncomputable abbrev LD (c:Nat):D:= .str (L c)
noncomputable abbrev rowS (cs:List Nat):D:= .list (cs.map LD)
noncomputable def isStr (o:Option D) (y:Str):Bool:=match o with|some (.str x)=>x==y|_=>false
theorem isStr_get {o:Option D} {y:Str} (h:isStr o y=true):o=some (.str y):=by
 unfold isStr at h
 split at h
 ·exact rwl (beq_iff_eq.mp h) rfl
 ·cases h
theorem low_L {c:Nat} (hc:c<8):metD (nm "lower") (LD c)=some (LD (c-c%2)):=by
 have : ∀ c<8,isStr (metD (nm "lower") (LD c)) (L (c-c%2))=true:=by decide +kernel
 exact isStr_get (this c hc)
theorem upp_L {c:Nat} (hc:c<8):metD (nm "upper") (LD c)=some (LD (c-c%2+1)):=by
 have : ∀ c<8,isStr (metD (nm "upper") (LD c)) (L (c-c%2+1))=true:=by decide +kernel
 exact isStr_get (this c hc)
theorem L_inj {a b:Nat} (ha:a<8) (hb:b<8):(L a==L b)=(a==b):=by
 have : ∀ a<8,∀ b<8,(L a==L b)=(a==b):=by decide +kernel
 exact this a ha b hb
theorem inv_lt {c:Nat} (h:c<8):inv c<8:=by
 have : ∀ c<8,inv c<8:=by decide
 exact this c h
theorem inv_inv (c:Nat):inv (inv c)=c:=by unfold inv;split<;>split<;>(first|exact H483 (by assumption) (by assumption)|exact rfl|exact Nat.sub_add_cancel (Nat.lt_of_add_left_lt (m2 (by assumption)))|exact H484 (by assumption) (by assumption))
theorem inv_ne (c:Nat):inv c≠c:=by unfold inv;split<;>(first|exact Nat.succ_ne_self _|exact H485 (by assumption))
theorem eqv_str (a b:Str):PyData.eqv (.str a) (.str b)=(a==b):=by simp [PyData.eqv]
theorem cmp_eqS (a b:Str):cmpD .Eq (.str a) (.str b)=some (a==b):=by simp [cEq,cNe,cLt,cLe,cGt,cGe,cIn,cNi,PyData.depth,PyData.eqv]
theorem cmp_neS (a b:Str):cmpD .NotEq (.str a) (.str b)=some (!(a==b)):=by simp [cEq,cNe,cLt,cLe,cGt,cGe,cIn,cNi,PyData.depth,PyData.eqv]
section
variable {Φ B:Fns} {Γ:Gens} {ρ:Loc}
theorem back_elt {c:Nat} (hc:c<8) (h:lk ρ (nm "x") = .d (LD c)):ev Φ B (.ite (ne' (vr "x") (low (vr "x"))) (low (vr "x")) (upp (vr "x"))) ρ=some (LD (inv c)):=by
 have hlow:ev Φ B (low (vr "x")) ρ=some (LD (c-c%2)):=bindI (evv h) (low_L hc)
 have hne:ev Φ B (ne' (vr "x") (low (vr "x"))) ρ=some (.bool (!(c==c-c%2))):=bindI (evv h) (bindI hlow (mapI ((cmp_neS _ _).trans (congrArg (fun b=>some (!b)) (L_inj hc (show c-c%2<8 by exact Nat.sub_lt_of_lt hc))))))
 refine bindI (bindI hne rfl) ?_
 by_cases q:c%2=0
 ·have e:c-c%2=c:=by exact Eq.trans (congrArg (HSub.hSub _) q) rfl
  refine rwl e (rwl (beq_self_eq_true _) ?_)
  exact (bindI (evv h) (upp_L hc)).trans (by unfold inv;refine rwl (if_pos q) (rwl q ?_);rfl)
 ·have e:(c==c-c%2)=false:=beq_eq_false_iff_ne.mpr (by exact Nat.ne_of_gt (m2 q))
  refine rwl e ?_
  exact hlow.trans (by unfold inv;refine rwl (if_neg q) ?_;congr 2;exact H486 q)
end
noncomputable def backP (ws:List Nat):List Nat:=ws.reverse.map inv
noncomputable def lt8s (cs:List Nat):Prop:= ∀ c∈cs,c<8
theorem back_lt {ws:List Nat} (h:lt8s ws):lt8s (backP ws):=fun c hc=>by
 unfold backP at hc
 obtain ⟨d,hd,rfl⟩:=List.mem_map.mp hc
 exact inv_lt (h d (List.mem_reverse.mp hd))
theorem len_B (t:Option Tab) (ds:List D) (h:ds.length<=szL):BB t (nm "len") [.list ds]=some (.int ds.length):=by
 have:BB t (nm "len") [.list ds]=lenB (.list ds):=by rfl
 refine rwl this ?_;unfold lenB;dsimp only;exact rwl (if_pos h) rfl
theorem phi_back {n:Nat} {ws:List Nat} (h:lt8s ws) (hl:ws.length<=1000):Phi (n+1) (nm "_law_back") [rowS ws]=some (rowS (backP ws)):=by
 have e:Phi (n+1) (nm "_law_back") [rowS ws]=(exs (Phi n) (BB none) GG pBack [(nm "word", .d (rowS ws))]).bind (·.2):=by rfl
 refine rwl e ?_
 have hw:lk [(nm "word", Bd.d (rowS ws))] (nm "word") = .d (rowS ws):=by rfl
 have hs:szL=100000:=rfl
 have i1:ev (Phi n) (BB none) (cmpn (.idx (vr "word") (sub (ci (-1)) (vr "k"))) "k" (len' (vr "word")) []) [(nm "word", .d (rowS ws))]=some (rowS ws.reverse):=by
  have hlen:ev (Phi n) (BB none) (len' (vr "word")) [(nm "word", .d (rowS ws))]=some (.int ws.length):=by
   refine v_blt (v_var hw) ?_
   exact rwl (len_B _ _ (by simp;exact t2 hl rfl)) (rwl (List.length_map _) rfl)
  refine (ev_mapR (n:=ws.length) (fun i=>LD (ws.getD (ws.length-1-i) 0)) hlen hl fun i hi=> ?_).trans ?_
  ·have k1:lk (upd (hide [nm "k"] [(nm "word", .d (rowS ws))]) (nm "k") (.d (.int i))) (nm "word") = .d (rowS ws):=by rfl
   refine v_idx (v_var k1) (v_bin (v_c _) (v_var lk_self) (z:= .int (-1-(i:Int))) rfl) ?_
   rw [idx_neg (by refine rwl (List.length_map _) ?_;exact hi) (by refine rwl (List.length_map _) ?_;exact t2 hl rfl),List.length_map,List.getElem?_map]
   have:ws[ws.length-1-i]? = some (ws.getD (ws.length-1-i) 0):=by
    refine rwl List.getD_eq_getElem?_getD (rwl (List.getElem?_eq_getElem (by exact Nat.sub_one_sub_lt_of_lt hi)) ?_);rfl
   refine rwl this ?_;rfl
  ·congr 2
   apply List.ext_getElem?
   intro i
   by_cases q:i<ws.length
   ·simp only [List.getElem?_map,List.getElem?_range q,Option.map_some]
    refine rwl (List.getElem?_reverse q) (rwl List.getD_eq_getElem?_getD (rwl (List.getElem?_eq_getElem (by exact Nat.sub_one_sub_lt_of_lt q)) ?_));rfl
   ·rw [List.getElem?_eq_none (by simp;exact Nat.le_of_not_lt q),List.getElem?_eq_none (by simp;exact Nat.le_of_not_lt q)]
 have i2:ev (Phi n) (BB none) (cmpr (.ite (ne' (vr "x") (low (vr "x"))) (low (vr "x")) (upp (vr "x"))) "x" (cmpn (.idx (vr "word") (sub (ci (-1)) (vr "k"))) "k" (len' (vr "word")) []) []) [(nm "word", .d (rowS ws))]=some (rowS (backP ws)):=by
  refine (ev_map (xs:=ws.reverse.map LD) (fun d=>match d with | .str x=> .str (L (inv ((List.range 8).find? (fun c=>L c==x)).get!))|_=> .none) i1 rfl (by simp;exact t2 hl rfl) fun d hd=> ?_).trans ?_
  ·refine ea12 (List.mem_map.mp hd) fun c hc Z2=> ?_;subst Z2
   have hc8:=h c (List.mem_reverse.mp hc)
   refine rwl (back_elt hc8 lk_self) ?_
   have : ∀ c<8,((List.range 8).find? (fun c'=>L c'==L c)).get! = c:=by decide +kernel
   simp only [this c hc8]
  ·congr 2
   unfold backP
   refine rwl List.map_map (rwl List.map_map ?_)
   apply List.map_congr_left
   intro c hc
   have hc8:=h c (List.mem_reverse.mp hc)
   have : ∀ c<8,((List.range 8).find? (fun c'=>L c'==L c)).get! = c:=by decide +kernel
   simp only [Function.comp,this c hc8]
 exact bindI (bindI (mapI i2) rfl) rfl
end Mine
namespace Mine
open PySem
section
variable {Φ B:Fns} {Γ:Gens} {ρ:Loc} {α:Type}
theorem ev_filterT {elt it:ME} {cs:MEs} {x:Str} {as:List α} {f g:α->D} {p:α->Bool} {src:D} (hit:ev Φ B it ρ=some src) (hs:items? src=some (as.map f)) (hl:as.length<=szL) (hp : ∀ a∈as,evA Φ B cs (upd (hide [x] ρ) x (.d (f a)))=some (p a)) (h : ∀ a∈as,p a=true->ev Φ B elt (upd (hide [x] ρ) x (.d (f a)))=some (g a)) :
  ev Φ B (.comp elt (.n x) false it cs) ρ=some (.list ((as.filter p).map g)):=
 bindI hit (bindI hs ((if_pos (by refine rwl (List.length_map _) ?_;exact hl)).trans (mapI (compRun_T fun a ha=>bindI rfl (bindI (hp a ha) (ifI (h a ha)))))))
theorem ev_mapT {elt it:ME} {x:Str} {as:List α} {f g:α->D} {src:D} (hit:ev Φ B it ρ=some src) (hs:items? src=some (as.map f)) (hl:as.length<=szL) (h : ∀ a∈as,ev Φ B elt (upd (hide [x] ρ) x (.d (f a)))=some (g a)) :
  ev Φ B (.comp elt (.n x) false it .nil) ρ=some (.list (as.map g)):=by
 have:=ev_filterT (p:=fun Z=>true) (cs:= .nil) hit hs hl (fun Z Z=>rfl) (fun a ha Z=>h a ha)
 rwa [List.filter_eq_self.mpr (fun Z Z=>rfl)] at this
theorem bindT2I {x y:Str} {ρ:Loc} {d a b:D} (h:items? d=some [a,b]):bindT (.t [x,y]) d ρ=some (upd (upd ρ x (.d a)) y (.d b)):=by
 show (match items? d with|some ds=>if ds.length=2 then some (([x,y].zip ds).foldl (fun (ρ:Loc) (p:Str×D)=>upd ρ p.1 (.d p.2)) ρ) else none|none=>none)=_
 refine rwl h ?_;rfl
theorem ev_filterT2 {elt it:ME} {cs:MEs} {x y:Str} {as:List α} {f g:α->D} {f1 f2:α->D} {p:α->Bool} {src:D} (hit:ev Φ B it ρ=some src) (hs:items? src=some (as.map f)) (hl:as.length<=szL) (hf : ∀ a,items? (f a)=some [f1 a,f2 a])
  (hp : ∀ a∈as,evA Φ B cs (upd (upd (hide [x,y] ρ) x (.d (f1 a))) y (.d (f2 a)))=some (p a)) (h : ∀ a∈as,p a=true->ev Φ B elt (upd (upd (hide [x,y] ρ) x (.d (f1 a))) y (.d (f2 a)))=some (g a)) :
  ev Φ B (.comp elt (.t [x,y]) false it cs) ρ=some (.list ((as.filter p).map g)):=
 bindI hit (bindI hs ((if_pos (by refine rwl (List.length_map _) ?_;exact hl)).trans (mapI (compRun_T fun a ha=>bindI (bindT2I (hf a)) (bindI (hp a ha) (ifI (h a ha)))))))
theorem ev_mapT2 {elt it:ME} {x y:Str} {as:List α} {f g:α->D} {f1 f2:α->D} {src:D} (hit:ev Φ B it ρ=some src) (hs:items? src=some (as.map f)) (hl:as.length<=szL) (hf : ∀ a,items? (f a)=some [f1 a,f2 a])
  (h : ∀ a∈as,ev Φ B elt (upd (upd (hide [x,y] ρ) x (.d (f1 a))) y (.d (f2 a)))=some (g a)) :
  ev Φ B (.comp elt (.t [x,y]) false it .nil) ρ=some (.list (as.map g)):=by
 have:=ev_filterT2 (p:=fun Z=>true) (cs:= .nil) hit hs hl hf (fun Z Z=>rfl) (fun a ha Z=>h a ha)
 rwa [List.filter_eq_self.mpr (fun Z Z=>rfl)] at this
theorem eqvAll_map [BEq α] {f:α->D} : ∀ {as bs:List α},(∀ a∈as,∀ b∈bs,PyData.eqv (f a) (f b)=(a==b))->PyData.eqvAll (as.map f) (bs.map f)=(as==bs)
 | [],[],_=>by simp [PyData.eqvAll]
 | [],_::_,_=>by simp [PyData.eqvAll]
 | _::_,[],_=>by simp [PyData.eqvAll]
 | a::as,b::bs,h=>by
  have ih:=eqvAll_map (f:=f) (as:=as) (bs:=bs) fun x hx y hy=>h x (List.mem_cons_of_mem _ hx) y (List.mem_cons_of_mem _ hy)
  simp only [List.map_cons,PyData.eqvAll,ih,h a List.mem_cons_self b List.mem_cons_self]
  rfl
theorem depthAll_map {f:α->D} {k:Nat} : ∀ {as:List α},(∀ a∈as,(f a).depth<=k)->PyData.depthAll (as.map f)<=k
 | [],_=>by simp [PyData.depthAll]
 | a::as,h=>by
  have ih:=depthAll_map (f:=f) (k:=k) (as:=as) fun x hx=>h x (List.mem_cons_of_mem _ hx)
  have:=h a List.mem_cons_self
  simp only [List.map_cons,PyData.depthAll]
  exact Nat.max_le_of_le_of_le this ih
end
theorem eqv_row {a b:List Nat} (ha:lt8s a) (hb:lt8s b):PyData.eqv (rowS a) (rowS b)=(a==b):=by
 show PyData.eqvAll _ _=_
 refine eqvAll_map fun x hx y hy=> ?_
 exact rwl (eqv_str _ _) (rwl (L_inj (ha x hx) (hb y hy)) rfl)
theorem depth_row (a:List Nat):(rowS a).depth<=1:=by
 show PyData.depthAll _+1<=1
 have:=depthAll_map (f:=LD) (k:=0) (as:=a) fun x Z=>by simp [PyData.depth]
 exact Nat.succ_le_succ this
theorem cmp_eqR {a b:List Nat} (ha:lt8s a) (hb:lt8s b):cmpD .Eq (rowS a) (rowS b)=some (a==b):=by
 have:=depth_row a
 simp only [cEq,cNe,cLt,cLe,cGt,cGe,cIn,cNi]
 exact rwl (if_pos (by exact Nat.le_trans this (Nat.le_of_ble_eq_true rfl))) (rwl (eqv_row ha hb) rfl)
theorem sl_row {a:List Nat} {lo hi:D} {l h:Option Int} (hl:partD lo=some l) (hh:partD hi=some h) (hs:a.length<=szL):slD (rowS a) lo hi .none=some (rowS ((a.take (clp h a.length a.length)).drop (clp l 0 a.length))):=by
 rw [sl_list hl hh (by refine rwl (List.length_map _) ?_;exact hs),List.length_map]
 show _=some (PyData.list (List.map LD _))
 exact rwl List.map_drop (rwl List.map_take rfl)
theorem add_row {a b:List Nat} (h:a.length+b.length<=szL):binD .Add (rowS a) (rowS b)=some (rowS (a++b)):=by
 simp only [bAI,bAS,bAL,bSI,bMI,bML,bOI,bDI,List.length_map]
 refine rwl (if_pos h) ?_
 show _=some (PyData.list (List.map LD _))
 exact rwl List.map_append rfl
end Mine
namespace Mine
open PySem
section
variable {Φ B:Fns} {Γ:Gens} {ρ:Loc} {a b c e:ME} {x y z d:D} {t:Bool}
theorem v_cmp {op:CmpOp} (ha:ev Φ B a ρ=some x) (hb:ev Φ B b ρ=some y) (h:cmpD op x y=some t):ev Φ B (.cmp op a b) ρ=some (.bool t):=bindI ha (bindI hb (mapI h))
theorem v_ite (hc:ev Φ B c ρ=some x) (ht:truD x=some t) (h1:t=true->ev Φ B a ρ=some z) (h2:t=false->ev Φ B b ρ=some z):ev Φ B (.ite c a b) ρ=some z:=bindI (bindI hc ht) (by rcases t with _|_
                                                                                                                                                                             ·exact h2 rfl
                                                                                                                                                                             ·exact h1 rfl)
theorem v_own {x:String} {ds:List D} (h:lk ρ (nm x) = .o ds) (r:Option D):own1 (ow x) ρ r=some (.list ds):=by
 show (match lk ρ (nm x) with | .o ds=>some (PyData.list ds)|_=>none)=_
 exact rwl h rfl
theorem v_bltO {f:Str} {n:String} {ds:List D} (ha:lk ρ (nm n) = .o ds) (h:B f [.list ds]=some z):ev Φ B (.blt f (ow n)) ρ=some z:=bindI (v_own ha _) h
theorem v_idxO {n:String} {ds:List D} (ha:lk ρ (nm n) = .o ds) (hb:ev Φ B b ρ=some y) (h:idxD (.list ds) y=some z):ev Φ B (.idx (ow n) b) ρ=some z:=bindI (v_own ha _) (bindI hb h)
theorem v_sl {l h st:ME} {dl dh dt:D} (ha:ev Φ B a ρ=some x) (hl:ev Φ B l ρ=some dl) (hh:ev Φ B h ρ=some dh) (ht:ev Φ B st ρ=some dt) (hz:slD x dl dh dt=some z) (hn:isOwn a=false:=by rfl):ev Φ B (.sl a l h st) ρ=some z:=bindI ((own1_ne hn).trans ha) (bindI hl (bindI hh (bindI ht hz)))
theorem v_slO {n:String} {ds:List D} {l h st:ME} {dl dh dt:D} (ha:lk ρ (nm n) = .o ds) (hl:ev Φ B l ρ=some dl) (hh:ev Φ B h ρ=some dh) (ht:ev Φ B st ρ=some dt) (hz:slD (.list ds) dl dh dt=some z):ev Φ B (.sl (ow n) l h st) ρ=some z:=bindI (v_own ha _) (bindI hl (bindI hh (bindI ht hz)))
theorem v_met {f:Str} (ha:ev Φ B a ρ=some x) (h:metD f x=some z):ev Φ B (.met f a) ρ=some z:=bindI ha h
theorem v_join {sep:Str} (ha:ev Φ B a ρ=some x) (h:B (Str.ofString "join") [.str sep,x]=some z) (hn:isOwn a=false:=by rfl):ev Φ B (.join sep a) ρ=some z:=bindI ((own1_ne hn).trans ha) h
theorem v_joinO {sep:Str} {n:String} {ds:List D} (ha:lk ρ (nm n) = .o ds) (h:B (Str.ofString "join") [.str sep,.list ds]=some z):ev Φ B (.join sep (ow n)) ρ=some z:=bindI (v_own ha _) h
theorem vl_nil:evL Φ B .nil ρ=some []:=rfl
theorem vl_cons {r:MEs} {ds:List D} (ha:ev Φ B a ρ=some x) (hr:evL Φ B r ρ=some ds):evL Φ B (.cons a r) ρ=some (x::ds):=bindI ha (mapI hr)
theorem vl_mes1 (ha:ev Φ B a ρ=some x):evL Φ B (mes [a]) ρ=some [x]:=vl_cons ha vl_nil
theorem vl_mes2 (ha:ev Φ B a ρ=some x) (hb:ev Φ B b ρ=some y):evL Φ B (mes [a,b]) ρ=some [x,y]:=vl_cons ha (vl_cons hb vl_nil)
theorem v_list {es:MEs} {ds:List D} (h:evL Φ B es ρ=some ds):ev Φ B (.list es) ρ=some (.list ds):=mapI h
theorem v_tup {es:MEs} {ds:List D} (h:evL Φ B es ρ=some ds):ev Φ B (.tup es) ρ=some (.tuple ds):=mapI h
theorem v_call {f:Str} {es:MEs} {ds:List D} (h:evL Φ B es ρ=some ds) (hz:Φ f ds=some z):ev Φ B (.call f es) ρ=some z:=bindI h hz
theorem v_bop {op:BoolOp} {es:MEs} (h:evB Φ B op es ρ=some t):ev Φ B (.bop op es) ρ=some (.bool t):=mapI h
theorem vb_nil {op:BoolOp}:evB Φ B op .nil ρ=some (op == .And):=rfl
theorem vb_and {r:MEs} {u:Bool} (ha:ev Φ B a ρ=some (.bool t)) (hr:t=true->evB Φ B .And r ρ=some u) (hu:t=false->u=false):evB Φ B .And (.cons a r) ρ=some u:=by
 show (match ev Φ B a ρ with|some (.bool b)=>if b==(BoolOp.And==BoolOp.Or) then some b else evB Φ B .And r ρ|_=>none)=_
 refine rwl ha ?_
 rcases t with _|_
 ·refine rwl (hu rfl) ?_;rfl
 ·exact hr rfl
theorem vb_or {r:MEs} {u:Bool} (ha:ev Φ B a ρ=some (.bool t)) (hr:t=false->evB Φ B .Or r ρ=some u) (hu:t=true->u=true):evB Φ B .Or (.cons a r) ρ=some u:=by
 show (match ev Φ B a ρ with|some (.bool b)=>if b==(BoolOp.Or==BoolOp.Or) then some b else evB Φ B .Or r ρ|_=>none)=_
 refine rwl ha ?_
 rcases t with _|_
 ·exact hr rfl
 ·refine rwl (hu rfl) ?_;rfl
theorem va_one (ha:ev Φ B a ρ=some x) (ht:truD x=some t):evA Φ B (mes [a]) ρ=some t:=bindI (bindI ha ht) (by rcases t with _|_<;>rfl)
theorem s_nil:exs Φ B Γ .nil ρ=some (ρ,none):=rfl
theorem s_cons {m:MS} {r:MSs} {ρ₁:Loc} {res:Loc×Option D} (h:ex Φ B Γ m ρ=some (ρ₁,none)) (hr:exs Φ B Γ r ρ₁=some res):exs Φ B Γ (.cons m r) ρ=some res:=bindI h hr
theorem s_ret {m:MS} {r:MSs} {ρ₁:Loc} (h:ex Φ B Γ m ρ=some (ρ₁,some d)):exs Φ B Γ (.cons m r) ρ=some (ρ₁,some d):=bindI h rfl
theorem x_asg {n:Str} (h:ev Φ B a ρ=some d):ex Φ B Γ (.asg n a) ρ=some (upd ρ n (.d d),none):=mapI h
theorem x_asgO {n:Str} {ds:List D} (h:ev Φ B a ρ=some (.list ds)):ex Φ B Γ (.asgO n a) ρ=some (upd ρ n (.o ds),none):=lstI h rfl
theorem x_ret (h:ev Φ B a ρ=some d):ex Φ B Γ (.ret a) ρ=some (ρ,some d):=mapI h
theorem x_retO {n:Str} {ds:List D} (h:lk ρ n = .o ds):ex Φ B Γ (.retO n) ρ=some (ρ,some (.list ds)):=ownI h rfl
theorem x_ite {p q:MSs} {res:Loc×Option D} (hc:ev Φ B c ρ=some x) (ht:truD x=some t) (h1:t=true->exs Φ B Γ p ρ=some res) (h2:t=false->exs Φ B Γ q ρ=some res):ex Φ B Γ (.ite c p q) ρ=some res:=bindI (bindI hc ht) (by rcases t with _|_
                                                                                                                                                                                                                        ·exact h2 rfl
                                                                                                                                                                                                                        ·exact h1 rfl)
theorem x_app {n:Str} {ds:List D} (h:ev Φ B a ρ=some d) (hn:lk ρ n = .o ds) (hl:ds.length<=szL):ex Φ B Γ (.app n a) ρ=some (setO ρ n (ds++[d]),none):=bindI h (ownI hn (if_pos hl))
theorem x_ins {n:Str} {ds:List D} {i:Nat} (hi:ev Φ B a ρ=some (.int i)) (h:ev Φ B b ρ=some d) (hn:lk ρ n = .o ds) (h1:i<=ds.length) (hl:ds.length<=1000):ex Φ B Γ (.ins n a b) ρ=some (setO ρ n (ds.take i++d::ds.drop i),none):=bindI hi (bindI h (ownI hn (if_pos ⟨by exact Int.natCast_nonneg _,by exact Int.ofNat_le.mpr h1,hl⟩)))
theorem x_unp {n m:Str} {u v:D} (h:ev Φ B a ρ=some d) (hi:items? d=some [u,v]):ex Φ B Γ (.unp n m a) ρ=some (upd (upd ρ n (.d u)) m (.d v),none):=bindI h (twoI hi rfl)
theorem x_for {tg:Tg} {body:MSs} {xs:List D} {res:Loc×Option D} (he:ev Φ B a ρ=some d) (hi:items? d=some xs) (hr:runFor tg (exs Φ B Γ body) xs ρ=some res):ex Φ B Γ (.fr tg .seq a body) ρ=some res:=bindI he (bindI hi hr)
theorem x_forR {tg:Tg} {body:MSs} {n:Nat} {res:Loc×Option D} (he:ev Φ B a ρ=some (.int n)) (hn:n<=1000) (hr:runFor tg (exs Φ B Γ body) (rngD n) ρ=some res):ex Φ B Γ (.fr tg .rng a body) ρ=some res:=bindI he (bindI (if_pos ⟨by exact Int.natCast_nonneg _,by exact Nat.ToInt.of_le rfl rfl hn⟩) hr)
theorem x_forG {tg:Tg} {body:MSs} {f:Str} {xs:List D} {res:Loc×Option D} (he:ev Φ B a ρ=some d) (hi:Γ f d=some xs) (hr:runFor tg (exs Φ B Γ body) xs ρ=some res):ex Φ B Γ (.fr tg (.gen f) a body) ρ=some res:=bindI he (bindI hi hr)
theorem x_wh {n:Nat} {body:MSs} {res:Loc×Option D} (hr:runWh (fun ρ=>(ev Φ B c ρ).bind truD) (exs Φ B Γ body) n ρ=some res):ex Φ B Γ (.wh n c body) ρ=some res:=hr
theorem lk_setO_ne {n y:Str} {ds:List D} {d:D} (h:lk ρ y = .d d) (hn:(n==y)=false):lk (setO ρ n ds) y = .d d:=by
 unfold setO
 refine rwl (lk_ne hn) (rwl (lk_noOwn _ _) (rwl h ?_));rfl
theorem lk_setO {n:Str} {ds:List D}:lk (setO ρ n ds) n = .o ds:=by unfold setO;exact lk_self
theorem clp_none {d n:Nat}:clp none d n=d:=rfl
theorem clp_m1 {d n:Nat}:clp (some (-1)) d n=n-1:=by unfold clp;simp;exact H368
theorem clp_nat {d n k:Nat}:clp (some (k:Int)) d n=min k n:=by
 unfold clp
 dsimp only
 refine rwl (if_neg (by exact Int.not_ofNat_neg _)) ?_;simp
end
end Mine
namespace Mine
open PySem
section
variable {Φ B:Fns} {Γ:Gens} {α β:Type}
theorem runFor_T {tg:Tg} {F:Loc->Res} {f:α->D} (step:β->α->β) (J:β->List α->Loc->Prop) (h : ∀ b a r ρ,J b (a::r) ρ -> ∃ ρ₁ ρ₂,bindT tg (f a) ρ=some ρ₁/\F ρ₁=some (ρ₂,none)/\J (step b a) r ρ₂) :
  ∀ (as:List α) (b:β) (ρ:Loc),J b as ρ -> ∃ ρ',runFor tg F (as.map f) ρ=some (ρ',none)/\J (as.foldl step b) [] ρ'
 | [],b,ρ,j=>⟨ρ,rfl,j⟩
 | a::r,b,ρ,j=>by
  obtain ⟨ρ₁,ρ₂,e1,e2,j'⟩:=h b a r ρ j
  refine ea12 (runFor_T step J h r (step b a) ρ₂ j') fun ρ' e3 j''=> ?_
  refine ⟨ρ',?_,j''⟩
  refine rwl List.map_cons ?_
  exact bindI e1 (bindI e2 e3)
noncomputable def iter (cond:β->Bool) (step:β->β):Nat->β->Option β
 | 0,_=>none
 | n+1,b=>if cond b then iter cond step n (step b) else some b
theorem runWh_T {c:Loc->Option Bool} {F:Loc->Res} {cond:β->Bool} {step:β->β} (J:β->Loc->Prop) (hc : ∀ b ρ,J b ρ->c ρ=some (cond b)) (hF : ∀ b ρ,J b ρ->cond b=true -> ∃ ρ',F ρ=some (ρ',none)/\J (step b) ρ') :
  ∀ (n:Nat) (b b':β) (ρ:Loc),J b ρ->iter cond step n b=some b' -> ∃ ρ',runWh c F n ρ=some (ρ',none)/\J b' ρ'
 | 0,b,b',ρ,j,e=>by cases e
 | n+1,b,b',ρ,j,e=>by
  unfold iter at e
  have rw1:runWh c F (n+1) ρ=if cond b=true then (F ρ).bind fun p=>(match p.2 with|none=>runWh c F n p.1|some v=>some (p.1,some v)) else some (ρ,none):=by
   show ((c ρ).bind fun t=>if t=true then (F ρ).bind fun p=>(match p.2 with|none=>runWh c F n p.1|some v=>some (p.1,some v)) else some (ρ,none))=_
   refine rwl (hc b ρ j) ?_;rfl
  refine rwl rw1 ?_
  by_cases q:cond b=true
  ·rw [if_pos q] at e ⊢
   refine ea12 (hF b ρ j q) fun ρ₁ e1 j1=> ?_
   refine ea12 (runWh_T J hc hF n (step b) b' ρ₁ j1 e) fun ρ' e2 j2=> ?_
   exact ⟨ρ',by simp only [e1,Option.bind_some,e2],j2⟩
  ·rw [if_neg q] at e ⊢
   obtain rfl:=Option.some.inj e
   exact ⟨ρ,rfl,j⟩
end
noncomputable def lastL (r:List Nat):List Nat:=r.drop (r.length-1)
noncomputable def initL (r:List Nat):List Nat:=r.take (r.length-1)
noncomputable def stkS (r:List Nat) (x:Nat):List Nat:=if backP (lastL r)==[x] then initL r else r++[x]
noncomputable def whC (r:List Nat):Bool:=decide (1<r.length)&&backP (lastL r)==r.take 1
noncomputable def whS (r:List Nat):List Nat:=(initL r).drop 1
noncomputable def struckP (cs:List Nat):List Nat:=(iter whC whS 20 (cs.foldl stkS [])).getD []
theorem lt8s_take {r:List Nat} (h:lt8s r) (n:Nat):lt8s (r.take n):=fun c hc=>h c (List.mem_of_mem_take hc)
theorem lt8s_drop {r:List Nat} (h:lt8s r) (n:Nat):lt8s (r.drop n):=fun c hc=>h c (List.mem_of_mem_drop hc)
theorem lt8s_app {r q:List Nat} (h:lt8s r) (h':lt8s q):lt8s (r++q):=fun c hc=>(List.mem_append.mp hc).elim (h c) (h' c)
theorem stk_len (r:List Nat) (x:Nat):(stkS r x).length<=r.length+1:=by
 unfold stkS initL
 split
 ·refine rwl List.length_take ?_;exact H370 (Nat.min_le_right _ _) (Nat.le_add_right _ _)
 ·simp
theorem fold_len : ∀ (cs r:List Nat),(cs.foldl stkS r).length<=r.length+cs.length
 | [],r=>by simp
 | c::cs,r=>by
  refine rwl List.foldl_cons ?_
  have h1:=fold_len cs (stkS r c)
  have h2:=stk_len r c
  simp only [List.length_cons]
  exact H370 h1 h2
theorem iter_some : ∀ (n:Nat) (r:List Nat),r.length<2*n -> ∃ r',iter whC whS n r=some r'
 | 0,r,h=>absurd h (Nat.not_lt_zero _)
 | n+1,r,h=>by
  unfold iter
  by_cases q:whC r=true
  ·refine rwl (if_pos q) ?_
   refine iter_some n _ ?_
   unfold whC at q
   simp only [Bool.and_eq_true,decide_eq_true_eq] at q
   unfold whS initL
   refine rwl List.length_drop (rwl List.length_take ?_)
   exact H487 q.1 h
  ·refine rwl (if_neg q) ?_;exact ⟨r,rfl⟩
section
variable {B:Fns} {Γ:Gens} {n:Nat} {ρ:Loc} {r:List Nat}
theorem ev_backlast (hr:lk ρ (nm "ring") = .d (rowS r)) (h:lt8s r) (hl:r.length<=1000):ev (Phi (n+1)) B (cl "_law_back" [.sl (vr "ring") (ci (-1)) nn nn]) ρ=some (rowS (backP (lastL r))):=by
 have hs:szL=100000:=rfl
 refine v_call (vl_mes1 (v_sl (v_var hr) (v_c _) (v_c _) (v_c _) (sl_row (l:=some (-1)) (h:=none) rfl rfl (by exact t2 hl rfl)))) ?_
 rw [clp_none];refine rwl clp_m1 (rwl List.take_length ?_)
 exact phi_back (lt8s_drop h _) (by refine rwl List.length_drop ?_;exact H371)
theorem ev_init (hr:lk ρ (nm "ring") = .d (rowS r)) (hl:r.length<=1000):ev (Phi (n+1)) B (.sl (vr "ring") nn (ci (-1)) nn) ρ=some (rowS (initL r)):=by
 have hs:szL=100000:=rfl
 refine (v_sl (v_var hr) (v_c _) (v_c _) (v_c _) (sl_row (l:=none) (h:=some (-1)) rfl rfl (by exact t2 hl rfl))).trans ?_
 refine rwl clp_none (rwl clp_m1 (rwl List.drop_zero ?_));rfl
theorem one_lt {x:Nat} (hx:x<8):lt8s [x]:=fun c hc=>by refine rwl (List.mem_singleton.mp hc) ?_;exact hx
noncomputable def mStk:ME:= .ite (eq' (cl "_law_back" [.sl (vr "ring") (ci (-1)) nn nn]) (li [vr "x"])) (.sl (vr "ring") nn (ci (-1)) nn) (add (vr "ring") (li [vr "x"]))
theorem stk_ev {x:Nat} (hr:lk ρ (nm "ring") = .d (rowS r)) (hx:lk ρ (nm "x") = .d (LD x)) (h:lt8s r) (h8:x<8) (hl:r.length<=100):ev (Phi (n+1)) B mStk ρ=some (rowS (stkS r x)):=by
 have a3:ev (Phi (n+1)) B (li [vr "x"]) ρ=some (rowS [x]):=v_list (vl_mes1 (v_var hx))
 refine v_ite (v_cmp (ev_backlast hr h (by exact Nat.le_trans hl (Nat.le_of_ble_eq_true rfl))) a3 (cmp_eqR (back_lt (lt8s_drop h _)) (one_lt h8))) rfl (fun q=> ?_) fun q=> ?_
 ·unfold stkS;refine rwl (if_pos q) ?_;exact ev_init hr (by exact Nat.le_trans hl (Nat.le_of_ble_eq_true rfl))
 ·unfold stkS;rw [if_neg (by refine rwl q ?_;decide)]
  exact v_bin (v_var hr) a3 (add_row (by simp [szL];exact Nat.le_trans hl (Nat.le_of_ble_eq_true rfl)))
noncomputable def mWhC:ME:= .bop .And (mes [.cmp .Gt (len' (vr "ring")) (ci 1),eq' (cl "_law_back" [.sl (vr "ring") (ci (-1)) nn nn]) (.sl (vr "ring") nn (ci 1) nn)])
theorem take_min (r:List Nat) (k:Nat):r.take (min k r.length)=r.take k:=by
 by_cases q:k<=r.length
 ·exact rwl (Nat.min_eq_left q) rfl
 ·exact rwl (Nat.min_eq_right (by exact Nat.le_of_not_ge q)) (rwl List.take_length (rwl (List.take_of_length_le (by exact Nat.le_of_not_ge q)) rfl))
theorem drop_min (r:List Nat) (k:Nat):r.drop (min k r.length)=r.drop k:=by
 by_cases q:k<=r.length
 ·exact rwl (Nat.min_eq_left q) rfl
 ·exact rwl (Nat.min_eq_right (by exact Nat.le_of_not_ge q)) (rwl List.drop_length (rwl (List.drop_of_length_le (by exact Nat.le_of_not_ge q)) rfl))
theorem v_len {t:Option Tab} {x:String} {α:Type} {f:α->D} {l:List α} (hr:lk ρ (nm x) = .d (.list (l.map f))) (hl:l.length<=1000) {Φ:Fns}:ev Φ (BB t) (len' (vr x)) ρ=some (.int l.length):=
 v_blt (v_var hr) ((len_B t _ (by simp [szL];exact Nat.le_trans hl (Nat.le_of_ble_eq_true rfl))).trans (by exact rwl (List.length_map _) rfl))
theorem whC_ev (hr:lk ρ (nm "ring") = .d (rowS r)) (h:lt8s r) (hl:r.length<=100):ev (Phi (n+1)) (BB none) mWhC ρ=some (.bool (whC r)):=by
 refine v_bop (vb_and (t:=decide (1<r.length)) (v_cmp (t:=decide (1<r.length)) (v_len hr (by exact Nat.le_trans hl (Nat.le_of_ble_eq_true rfl))) (v_c _) (by simp [cEq,cNe,cLt,cLe,cGt,cGe,cIn,cNi];exact Int.ofNat_lt)) (fun q=> ?_) fun q=> ?_)
 ·refine (vb_and (t:=backP (lastL r)==r.take 1) (v_cmp (ev_backlast hr h (by exact Nat.le_trans hl (Nat.le_of_ble_eq_true rfl))) ((v_sl (v_var hr) (v_c _) (v_c _) (v_c _) (sl_row (l:=none) (h:=some ((1:Nat):Int)) rfl rfl (by simp [szL];exact Nat.le_trans hl (Nat.le_of_ble_eq_true rfl)))).trans ?_) (cmp_eqR (back_lt (lt8s_drop h _)) (lt8s_take h 1))) (fun q'=> ?_) fun q'=> ?_)
  ·exact rwl clp_none (rwl clp_nat (rwl List.drop_zero (rwl (take_min _ _) rfl)))
  ·refine vb_nil.trans ?_;unfold whC;refine rwl q (rwl q' ?_);rfl
  ·unfold whC;refine rwl q (rwl q' ?_);rfl
 ·unfold whC;refine rwl q ?_;rfl
theorem phi_struck {n:Nat} {cs:List Nat} (h:lt8s cs) (hl:cs.length<=30):Phi (n+2) (nm "_law_struck") [rowS cs]=some (rowS (struckP cs)):=by
 have e:Phi (n+2) (nm "_law_struck") [rowS cs]=(exs (Phi (n+1)) (BB none) GG pStruck [(nm "row", .d (rowS cs))]).bind (·.2):=by rfl
 refine rwl e ?_
 obtain ⟨ρ₁,e1,j1,j2,_,j4⟩:=runFor_T (F:=exs (Phi (n+1)) (BB none) GG (mss [.asg (nm "ring") mStk])) (tg:= .n (nm "x")) (f:=LD) stkS
  (fun r rest ρ=>lk ρ (nm "ring") = .d (rowS r)/\lt8s r/\lt8s rest/\r.length+rest.length<=30) (fun r x rest ρ Z9=>ea04 Z9 fun j1 j2 j3 j4=>by
   have hx:x<8:=j3 x List.mem_cons_self
   simp only [List.length_cons] at j4
   refine ⟨_,upd (upd ρ (nm "x") (.d (LD x))) (nm "ring") (.d (rowS (stkS r x))),rfl,s_cons (x_asg (stk_ev ((lk_ne rfl).trans j1) lk_self j2 hx (by exact t2 (Nat.le_of_add_right_le j4) rfl))) s_nil,lk_self,?_,fun c hc=>j3 c (List.mem_cons_of_mem _ hc),?_⟩
   ·unfold stkS
    split
    ·exact lt8s_take j2 _
    ·exact lt8s_app j2 (one_lt hx)
   ·have:=stk_len r x
    exact H376 this j4) cs [] (upd [(nm "row", .d (rowS cs))] (nm "ring") (.d (.list []))) ⟨by rfl,(fun c hc=>by cases hc),h,by simp;exact hl⟩
 simp only [List.length_nil] at j4
 refine ea11 (iter_some 20 (cs.foldl stkS []) (by exact Nat.lt_of_le_of_lt j4 (Nat.le_of_ble_eq_true rfl))) fun r' hr'=> ?_
 have hst:struckP cs=r':=by unfold struckP;refine rwl hr' ?_;rfl
 obtain ⟨ρ₂,e2,j5,_⟩:=runWh_T (c:=fun ρ=>(ev (Phi (n+1)) (BB none) mWhC ρ).bind truD) (F:=exs (Phi (n+1)) (BB none) GG (mss [.asg (nm "ring") (.sl (vr "ring") (ci 1) (ci (-1)) nn)]))
  (cond:=whC) (step:=whS) (fun r ρ=>lk ρ (nm "ring") = .d (rowS r)/\lt8s r/\r.length<=30) (fun r ρ Z9=>ea03 Z9 fun j1 j2 j3=>by
   simp only [whC_ev j1 j2 (by exact t2 j3 rfl),Option.bind_some,truD]) (fun r ρ ⟨j1,j2,j3⟩ hc=>by
   refine ⟨_,s_cons (x_asg ((v_sl (v_var j1) (v_c _) (v_c _) (v_c _) (sl_row (l:=some ((1:Nat):Int)) (h:=some (-1)) rfl rfl (by simp [szL];exact t2 j3 rfl))).trans ?_)) s_nil,lk_self,?_,?_⟩
   ·refine rwl clp_nat (rwl clp_m1 ?_)
    unfold whC at hc
    simp only [Bool.and_eq_true,decide_eq_true_eq] at hc
    refine rwl (Nat.min_eq_left (by exact Nat.le_of_lt hc.1)) ?_;rfl
   ·exact lt8s_drop (lt8s_take j2 _) _
   ·unfold whS initL;refine rwl List.length_drop (rwl List.length_take ?_);exact H488 j3) 20 _ r' ρ₁ ⟨j1,j2,by exact j4⟩ hr'
 have t1:exs (Phi (n+1)) (BB none) GG pStruck [(nm "row", .d (rowS cs))]=some (ρ₂,some (rowS r')):=by
  refine s_cons (x_asg (v_list vl_nil)) (s_cons (ρ₁:=ρ₁) ?_ (s_cons (ρ₁:=ρ₂) ?_ (s_ret (x_ret (v_var j5)))))
  ·exact x_for (v_var (d:=rowS cs) (by rfl)) rfl e1
  ·exact x_wh e2
 refine rwl t1 (rwl hst ?_);rfl
end
end Mine
namespace Mine
open PySem
section
variable {Φ B:Fns} {Γ:Gens} {α:Type} {ρ:Loc}
theorem runFor_any {tg:Tg} {F:Loc->Res} {f:α->D} {v:D} (p:α->Bool) (J:Loc->Prop) : ∀ (as:List α),(∀ a ρ,a∈as->J ρ -> ∃ ρ₁ ρ₂,bindT tg (f a) ρ=some ρ₁/\F ρ₁=some (ρ₂,if p a then some v else none)/\J ρ₂) -> ∀ ρ,J ρ -> ∃ ρ',runFor tg F (as.map f) ρ=some (ρ',if as.any p then some v else none)/\J ρ'
 | [],_,ρ,j=>⟨ρ,rfl,j⟩
 | a::r,h,ρ,j=>by
  refine ea23 (h a ρ List.mem_cons_self j) fun ρ₁ ρ₂ e1 e2 j'=> ?_
  rcases q:p a with _|_
  ·rw [q] at e2
   refine ea12 (runFor_any p J r (fun b ρ hb=>h b ρ (List.mem_cons_of_mem _ hb)) ρ₂ j') fun ρ' h1 h2=>⟨ρ',?_,h2⟩
   refine rwl List.any_cons (rwl q ?_);exact bindI e1 (bindI e2 h1)
  ·rw [q] at e2
   exact ⟨ρ₂,by refine rwl List.any_cons (rwl q ?_);exact bindI e1 (bindI e2 rfl),j'⟩
theorem rngD_eq (n:Nat):rngD n=(List.range n).map fun (i:Nat)=>PyData.int i:=by unfold rngD;simp
theorem s_last {m:MS} {res:Loc×Option D} (h:ex Φ B Γ m ρ=some res):exs Φ B Γ (.cons m .nil) ρ=some res:=by
 obtain ⟨ρ',o⟩:=res
 rcases o with _|_<;>exact bindI h rfl
theorem s_more {m:MS} {r:MSs} {ρ₁:Loc} {o:Option D} {res:Loc×Option D} (h:ex Φ B Γ m ρ=some (ρ₁,o)) (hn:o=none->exs Φ B Γ r ρ₁=some res) (hs : ∀ d,o=some d->res=(ρ₁,some d)):exs Φ B Γ (.cons m r) ρ=some res:=by
 rcases o with _|d
 ·exact bindI h (hn rfl)
 ·refine rwl (hs d rfl) ?_;exact bindI h rfl
end
noncomputable def commT (half:Nat) (word other:List Nat) (i j:Nat):Bool:=word.drop half==other.drop i++(other.take i).drop j++other.take j
noncomputable def commW (ring:List Nat) (half turn:Nat):Bool:=
 let word:=ring.drop turn++ring.take turn
 let other:=backP (word.take half)
 (List.range (half+1)).any fun i=>(List.range (i+1)).any fun j=>commT half word other i j
noncomputable def commP (ring:List Nat):Bool:=(List.range ring.length).any fun turn=>commW ring (ring.length/2) turn
noncomputable def mCT:ME:=eq' (.sl (vr "word") (vr "half") nn nn) (add (add (.sl (vr "other") (vr "i") nn nn) (.sl (vr "other") (vr "j") (vr "i") nn)) (.sl (vr "other") nn (vr "j") nn))
section
variable {n:Nat} {ρ:Loc}
theorem commT_ev {word other:List Nat} {half i j:Nat} (hw:lk ρ (nm "word") = .d (rowS word)) (ho:lk ρ (nm "other") = .d (rowS other)) (hh:lk ρ (nm "half") = .d (.int half)) (hi:lk ρ (nm "i") = .d (.int i)) (hj:lk ρ (nm "j") = .d (.int j))
  (lw:lt8s word) (lo:lt8s other) (h1:word.length<=100) (h2:other.length<=100) {Φ B:Fns}:ev Φ B mCT ρ=some (.bool (commT half word other i j)):=by
 have hs:szL=100000:=rfl
 have s1:ev Φ B (.sl (vr "word") (vr "half") nn nn) ρ=some (rowS (word.drop half)):=by
  refine (v_sl (v_var hw) (v_var hh) (v_c _) (v_c _) (sl_row (l:=some (half:Int)) (h:=none) rfl rfl (by exact t2 h1 rfl))).trans ?_
  rw [clp_none];exact rwl clp_nat (rwl List.take_length (rwl (drop_min _ _) rfl))
 have s2:ev Φ B (.sl (vr "other") (vr "i") nn nn) ρ=some (rowS (other.drop i)):=by
  refine (v_sl (v_var ho) (v_var hi) (v_c _) (v_c _) (sl_row (l:=some (i:Int)) (h:=none) rfl rfl (by exact t2 h2 rfl))).trans ?_
  rw [clp_none];exact rwl clp_nat (rwl List.take_length (rwl (drop_min _ _) rfl))
 have s3:ev Φ B (.sl (vr "other") (vr "j") (vr "i") nn) ρ=some (rowS ((other.take i).drop j)):=by
  refine (v_sl (v_var ho) (v_var hj) (v_var hi) (v_c _) (sl_row (l:=some (j:Int)) (h:=some (i:Int)) rfl rfl (by exact t2 h2 rfl))).trans ?_
  refine rwl clp_nat (rwl clp_nat (rwl (take_min _ _) ?_))
  by_cases q:j<=other.length
  ·exact rwl (Nat.min_eq_left q) rfl
  ·rw [Nat.min_eq_right (by exact Nat.le_of_not_ge q),List.drop_of_length_le (by refine rwl List.length_take ?_;exact Nat.min_le_right _ _),List.drop_of_length_le (by refine rwl List.length_take ?_;exact Nat.le_trans (Nat.min_le_right _ _) (Nat.le_of_not_ge q))]
 have s4:ev Φ B (.sl (vr "other") nn (vr "j") nn) ρ=some (rowS (other.take j)):=by
  refine (v_sl (v_var ho) (v_c _) (v_var hj) (v_c _) (sl_row (l:=none) (h:=some (j:Int)) rfl rfl (by exact t2 h2 rfl))).trans ?_
  exact rwl clp_none (rwl clp_nat (rwl (take_min _ _) (rwl List.drop_zero rfl)))
 refine v_cmp s1 (v_bin (v_bin s2 s3 (add_row ?_)) s4 (add_row ?_)) (cmp_eqR (lt8s_drop lw _) (lt8s_app (lt8s_app (lt8s_drop lo _) (lt8s_drop (lt8s_take lo _) _)) (lt8s_take lo _)))
 ·simp only [List.length_drop,List.length_take];exact H489 h2 rfl
 ·simp only [List.length_append,List.length_drop,List.length_take];exact H490 h2 rfl
theorem phi_comm {n:Nat} {ring:List Nat} (h:lt8s ring) (hl:ring.length<=30):Phi (n+2) (nm "_law_is_commutator") [rowS ring]=some (.bool (commP ring)):=by
 have hs:szL=100000:=rfl
 have e:Phi (n+2) (nm "_law_is_commutator") [rowS ring]=(exs (Phi (n+1)) (BB none) GG pComm [(nm "ring", .d (rowS ring))]).bind (·.2):=by rfl
 refine rwl e ?_
 have r0:lk [(nm "ring", Bd.d (rowS ring))] (nm "ring") = .d (rowS ring):=by rfl
 have hh:ev (Phi (n+1)) (BB none) (dv (len' (vr "ring")) (ci 2)) [(nm "ring", .d (rowS ring))]=some (.int (ring.length/2:Nat)):=by
  refine v_bin (v_len r0 (by exact Nat.le_trans hl (Nat.le_of_ble_eq_true rfl))) (v_c _) ?_
  simp only [bAI,bAS,bAL,bSI,bMI,bML,bOI,bDI]
  refine rwl (if_pos ⟨by exact (by decide),by exact Int.NonNeg.mk (_+Nat.succ 4611686018427387902),by exact i62 hl rfl⟩) ?_;rfl
 obtain ⟨ρ₁,e1,_⟩:=runFor_any (tg:= .n (nm "turn")) (f:=fun (i:Nat)=>PyData.int i) (v:= .bool true) (F:=exs (Phi (n+1)) (BB none) GG (mss [
   .asg (nm "word") (add (.sl (vr "ring") (vr "turn") nn nn) (.sl (vr "ring") nn (vr "turn") nn)),
   .asg (nm "other") (cl "_law_back" [.sl (vr "word") nn (vr "half") nn]),
   .fr (.n (nm "i")) .rng (add (vr "half") (ci 1)) (mss [.fr (.n (nm "j")) .rng (add (vr "i") (ci 1)) (mss [.ite mCT (mss [.ret (.c (.bool true))]) .nil])])]))
  (fun turn=>commW ring (ring.length/2) turn) (fun ρ=>lk ρ (nm "ring") = .d (rowS ring)/\lk ρ (nm "half") = .d (.int (ring.length/2:Nat))) (List.range ring.length) (fun turn ρ ht Z9=>ea02 Z9 fun j1 j2=>by
   have ht:=List.mem_range.mp ht
   refine ⟨upd ρ (nm "turn") (.d (.int turn)),?_⟩
   have k1:lk (upd ρ (nm "turn") (.d (.int turn))) (nm "ring") = .d (rowS ring):=(lk_ne rfl).trans j1
   have w1:ev (Phi (n+1)) (BB none) (add (.sl (vr "ring") (vr "turn") nn nn) (.sl (vr "ring") nn (vr "turn") nn)) (upd ρ (nm "turn") (.d (.int turn)))=some (rowS (ring.drop turn++ring.take turn)):=by
    have a1:ev (Phi (n+1)) (BB none) (.sl (vr "ring") (vr "turn") nn nn) (upd ρ (nm "turn") (.d (.int turn)))=some (rowS (ring.drop turn)):=by
     refine (v_sl (v_var k1) (v_var lk_self) (v_c _) (v_c _) (sl_row (l:=some (turn:Int)) (h:=none) rfl rfl (by exact t2 hl rfl))).trans ?_
     rw [clp_none];exact rwl clp_nat (rwl List.take_length (rwl (drop_min _ _) rfl))
    have a2:ev (Phi (n+1)) (BB none) (.sl (vr "ring") nn (vr "turn") nn) (upd ρ (nm "turn") (.d (.int turn)))=some (rowS (ring.take turn)):=by
     refine (v_sl (v_var k1) (v_c _) (v_var lk_self) (v_c _) (sl_row (l:=none) (h:=some (turn:Int)) rfl rfl (by exact t2 hl rfl))).trans ?_
     exact rwl clp_none (rwl clp_nat (rwl (take_min _ _) (rwl List.drop_zero rfl)))
    exact v_bin a1 a2 (add_row (by simp only [List.length_drop,List.length_take];exact H491 hl rfl))
   generalize hwd:ring.drop turn++ring.take turn=word at w1
   have lw:lt8s word:=by refine lwr hwd ?_;exact lt8s_app (lt8s_drop h _) (lt8s_take h _)
   have hwl:word.length<=30:=by refine lwr hwd ?_;simp only [List.length_append,List.length_drop,List.length_take];exact H492 hl
   generalize hρ2:upd (upd ρ (nm "turn") (.d (.int turn))) (nm "word") (.d (rowS word))=ρ2
   have m1:lk ρ2 (nm "word") = .d (rowS word):=lkS hρ2
   have m2:lk ρ2 (nm "half") = .d (.int (ring.length/2:Nat)):=by refine lwr hρ2 ?_;exact (lk_ne rfl).trans ((lk_ne rfl).trans j2)
   have m3:lk ρ2 (nm "ring") = .d (rowS ring):=by refine lwr hρ2 ?_;exact (lk_ne rfl).trans k1
   have w2:ev (Phi (n+1)) (BB none) (cl "_law_back" [.sl (vr "word") nn (vr "half") nn]) ρ2=some (rowS (backP (word.take (ring.length/2)))):=by
    have a2:ev (Phi (n+1)) (BB none) (.sl (vr "word") nn (vr "half") nn) ρ2=some (rowS (word.take (ring.length/2))):=by
     refine (v_sl (v_var m1) (v_c _) (v_var m2) (v_c _) (sl_row (l:=none) (h:=some ((ring.length/2:Nat):Int)) rfl rfl (by exact t2 hwl rfl))).trans ?_
     exact rwl clp_none (rwl clp_nat (rwl (take_min _ _) (rwl List.drop_zero rfl)))
    exact v_call (vl_mes1 a2) (phi_back (lt8s_take lw _) (by refine rwl List.length_take ?_;exact Nat.le_trans (Nat.min_le_right _ _) (t2 hwl rfl)))
   generalize hot:backP (word.take (ring.length/2))=other at w2
   have lo:lt8s other:=by refine lwr hot ?_;exact back_lt (lt8s_take lw _)
   have hol:other.length<=30:=by refine lwr hot ?_;unfold backP;simp only [List.length_map,List.length_reverse,List.length_take];exact Nat.le_trans (Nat.min_le_right _ _) hwl
   generalize hhalf:ring.length/2=half at *
   have hhl:half<=15:=by exact hhalf▸Nat.div_le_of_le_mul hl
   obtain ⟨ρ3,e3,o1,o2⟩:=runFor_any (tg:= .n (nm "i")) (f:=fun (i:Nat)=>PyData.int i) (v:= .bool true) (F:=exs (Phi (n+1)) (BB none) GG (mss [.fr (.n (nm "j")) .rng (add (vr "i") (ci 1)) (mss [.ite mCT (mss [.ret (.c (.bool true))]) .nil])]))
    (fun i=>(List.range (i+1)).any fun j=>commT half word other i j) (fun ρ=>lk ρ (nm "ring") = .d (rowS ring)/\lk ρ (nm "half") = .d (.int half)/\lk ρ (nm "word") = .d (rowS word)/\lk ρ (nm "other") = .d (rowS other)) (List.range (half+1)) (fun i ρ hi Z9=>ea04 Z9 fun o1 o2 o3 o4=>by
     have hi:=List.mem_range.mp hi
     obtain ⟨ρ4,e4,p1,p2,p3,p4,p5⟩:=runFor_any (tg:= .n (nm "j")) (f:=fun (i:Nat)=>PyData.int i) (v:= .bool true) (F:=exs (Phi (n+1)) (BB none) GG (mss [.ite mCT (mss [.ret (.c (.bool true))]) .nil]))
      (fun j=>commT half word other i j) (fun ρ=>lk ρ (nm "ring") = .d (rowS ring)/\lk ρ (nm "half") = .d (.int half)/\lk ρ (nm "word") = .d (rowS word)/\lk ρ (nm "other") = .d (rowS other)/\lk ρ (nm "i") = .d (.int i)) (List.range (i+1)) (fun j ρ Z Z9=>ea05 Z9 fun p1 p2 p3 p4 p5=>by
       have ne : ∀ {y:Str},(nm "j" == y)=false->lk (upd ρ (nm "j") (.d (.int j))) y=lk ρ y:=fun hy=>lk_ne hy
       refine ⟨upd ρ (nm "j") (.d (.int j)),upd ρ (nm "j") (.d (.int j)),rfl,s_last ?_,(ne rfl).trans p1,(ne rfl).trans p2,(ne rfl).trans p3,(ne rfl).trans p4,(ne rfl).trans p5⟩
       refine x_ite (commT_ev ((ne rfl).trans p3) ((ne rfl).trans p4) ((ne rfl).trans p2) ((ne rfl).trans p5) lk_self lw lo (by exact Nat.le_trans hwl (Nat.le_of_ble_eq_true rfl)) (by exact Nat.le_trans hol (Nat.le_of_ble_eq_true rfl))) rfl (fun q=> ?_) fun q=> ?_
       ·refine rwl (if_pos q) ?_;exact s_ret (x_ret (v_c _))
       ·rw [if_neg (by refine rwl q ?_;decide)];exact s_nil) (upd ρ (nm "i") (.d (.int i))) ⟨(lk_ne rfl).trans o1,(lk_ne rfl).trans o2,(lk_ne rfl).trans o3,(lk_ne rfl).trans o4,lk_self⟩
     refine ⟨_,ρ4,rfl,s_last (x_forR (n:=i+1) (v_bin (v_var lk_self) (v_c _) rfl) (by exact t2 (H370 hi hhl) rfl) ?_),p1,p2,p3,p4⟩
     refine rwl (rngD_eq _) ?_;exact e4) (upd ρ2 (nm "other") (.d (rowS other))) ⟨(lk_ne rfl).trans m3,(lk_ne rfl).trans m2,(lk_ne rfl).trans m1,lk_self⟩
   refine ⟨ρ3,rfl,?_,o1,o2.1⟩
   refine s_cons (x_asg w1) ?_
   refine rwl hρ2 ?_
   refine s_cons (x_asg w2) (s_last (x_forR (n:=half+1) (v_bin (v_var ((lk_ne rfl).trans m2)) (v_c _) rfl) (by exact Nat.lt_of_le_of_lt hhl (Nat.le_of_ble_eq_true rfl)) ?_))
   refine rwl (rngD_eq _) ?_
   unfold commW
   simp only [hwd,hot]
   exact e3) (upd [(nm "ring", .d (rowS ring))] (nm "half") (.d (.int (ring.length/2:Nat)))) ⟨by rfl,lk_self⟩
 have t1:exs (Phi (n+1)) (BB none) GG pComm [(nm "ring", .d (rowS ring))]=some (ρ₁,some (.bool (commP ring))):=by
  refine s_cons (x_asg hh) (s_more (ρ₁:=ρ₁) (o:=if commP ring then some (.bool true) else none) (x_forR (n:=ring.length) (v_len (by rfl) (by exact Nat.le_trans hl (Nat.le_of_ble_eq_true rfl))) (by exact Nat.le_trans hl (Nat.le_of_ble_eq_true rfl)) ?_) (fun q=> ?_) fun d q=> ?_)
  ·refine rwl (rngD_eq _) ?_;exact e1
  ·have:commP ring=false:=by
    rcases hc:commP ring with _|_
    ·rfl
    ·rw [hc] at q;simp at q
   refine rwl this ?_
   exact s_ret (x_ret (v_c _))
  ·rcases hc:commP ring with _|_
   ·rw [hc] at q;simp at q
   ·rw [hc] at q;simp at q;exact lwr q rfl
 refine rwl t1 ?_;rfl
end
end Mine
namespace Mine
open PySem
section
variable {Φ B:Fns} {Γ:Gens} {α β:Type} {ρ:Loc}
theorem compFlat_T {F:D->Option (List D)} {f:α->D} {g:α->List D} : ∀ {as:List α},(∀ a∈as,F (f a)=some (g a))->compFlat F (as.map f)=some (as.flatMap g)
 | [],_=>rfl
 | a::r,h=>by
  have ih:=compFlat_T (F:=F) (f:=f) (g:=g) (as:=r) fun y hy=>h y (List.mem_cons_of_mem _ hy)
  refine rwl List.map_cons ?_
  unfold compFlat
  refine rwl (h a List.mem_cons_self) (rwl ih ?_)
  simp
theorem ev_comp2T {elt i1 i2:ME} {x y:Str} {as:List α} {f:α->D} {bs:α->List β} {fb:β->D} {g:α->β->D} {src:D} {src2:α->D} (hit:ev Φ B i1 ρ=some src) (hs:items? src=some (as.map f)) (hl:as.length<=1000)
  (h2 : ∀ a∈as,ev Φ B i2 (upd (hide [x,y] ρ) x (.d (f a)))=some (src2 a)/\items? (src2 a)=some ((bs a).map fb)/\(bs a).length<=1000) (h : ∀ a∈as,∀ b∈bs a,ev Φ B elt (upd (upd (hide [x,y] ρ) x (.d (f a))) y (.d (fb b)))=some (g a b)) :
  ev Φ B (.comp2 elt (.n x) i1 (.n y) i2) ρ=some (.list (as.flatMap fun a=>(bs a).map (g a))):=by
 refine bindI hit (bindI hs ((if_pos (by refine rwl (List.length_map _) ?_;exact hl)).trans (mapI (compFlat_T (g:=fun a=>(bs a).map (g a)) ?_))))
 ·intro a ha
  refine ea03 (h2 a ha) fun e1 e2 e3=> ?_
  have en:tgNames (.n x)++tgNames (.n y)=[x,y]:=rfl
  exact bindI rfl (bindI e1 (bindI e2 ((if_pos (by refine rwl (List.length_map _) ?_;exact e3)).trans (compRun_A fun b hb=>bindI rfl (mapI (h a ha b hb))))))
end
noncomputable abbrev Lk:=List (Nat×Nat)
noncomputable abbrev linkD (l:Nat×Nat):D:= .list [.int l.1,.int l.2]
noncomputable abbrev linksD (ls:Lk):D:= .list (ls.map linkD)
noncomputable abbrev natsD (ns:List Nat):D:= .list (ns.map fun (n:Nat)=> .int n)
noncomputable abbrev matesD (ms:List (List Nat)):D:= .list (ms.map natsD)
noncomputable def usedP (ls:Lk):List Nat:=ls.flatMap fun l=>[l.1,l.2]
noncomputable def freeP (ls:Lk):List Nat:=(List.range 8).filter fun p=> !(usedP ls).contains p
noncomputable def longerP (ms:List (List Nat)) (ls:Lk):List Lk:=match freeP ls with
 | []=>[]
 | f::_=>((ms.getD f []).filter fun q=> !(usedP ls).contains q).map fun q=>ls++[(f,q)]
theorem in_nats (p:Nat) (ns:List Nat):inD (.int p) (natsD ns)=some (ns.contains p):=by
 have hd:(PyData.int (p:Int)).depth<=64:=by simp [PyData.depth]
 simp only [iL,iT,iS]
 refine rwl (if_pos hd) (rwl List.any_map ?_)
 congr 1
 induction ns with
 | nil=>rfl
 | cons n r ih=>
  refine rwl List.any_cons (rwl List.contains_cons (rwl ih ?_))
  have e:PyData.eqv (.int (n:Int)) (.int (p:Int))=(p==n):=by
   have e1:PyData.eqv (.int (n:Int)) (.int (p:Int))=((n:Int)==(p:Int)):=by simp [PyData.eqv]
   refine rwl e1 ?_
   by_cases q:p=n
   ·subst q;simp
   ·exact rwl (beq_eq_false_iff_ne.mpr q) (rwl (beq_eq_false_iff_ne.mpr (by exact Nat.ToInt.of_diseq rfl rfl fun a_1 ↦ q (id (Eq.symm a_1)))) rfl)
  simp only [Function.comp,e]
theorem notin_nats (p:Nat) (ns:List Nat):cmpD .NotIn (.int p) (natsD ns)=some (!ns.contains p):=by
 show (inD (.int p) (natsD ns)).map (!·)=_
 refine rwl (in_nats _ _) ?_;rfl
theorem phi_longer {n:Nat} {ls:Lk} {ms:List (List Nat)} {f:Nat} {fr:List Nat} (hf:freeP ls=f::fr) (hm:ms.length=8) (hl:ls.length<=100) (hml : ∀ m∈ms,m.length<=100) :
  Phi (n+1) (nm "_law_longer") [linksD ls,matesD ms]=some (.list ((longerP ms ls).map linksD)):=by
 have hs:szL=100000:=rfl
 have e:Phi (n+1) (nm "_law_longer") [linksD ls,matesD ms]=(exs (Phi n) (BB none) GG pLonger [(nm "links", .d (linksD ls)),(nm "mates", .d (matesD ms))]).bind (·.2):=by rfl
 refine rwl e ?_
 have hf8:f<8:=by
  have:f∈freeP ls:=by refine rwl hf ?_;exact List.mem_cons_self
  unfold freeP at this
  exact List.mem_range.mp (List.mem_filter.mp this).1
 have u1:ev (Phi n) (BB none) (.comp2 (vr "x") (.n (nm "pair")) (vr "links") (.n (nm "x")) (vr "pair")) [(nm "links", .d (linksD ls)),(nm "mates", .d (matesD ms))]=some (natsD (usedP ls)):=by
  refine (ev_comp2T (as:=ls) (f:=linkD) (bs:=fun l=>[l.1,l.2]) (fb:=fun (n:Nat)=>PyData.int n) (g:=fun Z (n:Nat)=>PyData.int n) (src2:=linkD) (v_var (by rfl)) rfl (by exact Nat.le_trans hl (Nat.le_of_ble_eq_true rfl)) (fun a ha=>⟨v_var lk_self,rfl,by simp⟩) fun a ha b hb=>v_var lk_self).trans ?_
  unfold usedP natsD
  exact rwl List.map_flatMap rfl
 generalize hρ:upd [(nm "links", Bd.d (linksD ls)),(nm "mates", .d (matesD ms))] (nm "used") (.d (natsD (usedP ls)))=ρ
 have k1:lk ρ (nm "links") = .d (linksD ls):=by refine lwr hρ ?_;rfl
 have k2:lk ρ (nm "mates") = .d (matesD ms):=by refine lwr hρ ?_;rfl
 have k3:lk ρ (nm "used") = .d (natsD (usedP ls)):=by refine lwr hρ ?_;rfl
 have f1:ev (Phi n) (BB none) (.idx (cmpn (vr "p") "p" (ci 8) [.cmp .NotIn (vr "p") (vr "used")]) (ci 0)) ρ=some (.int f):=by
  refine v_idx (x:=natsD (freeP ls)) ?_ (v_c (.int ((0:Nat):Int))) ?_
  ·refine ev_filterR (n:=8) (fun p=> !(usedP ls).contains p) (fun p=> .int p) (v_c _) (by decide) (fun i hi=> ?_) fun i hi Z=>v_var lk_self
   refine va_one (v_cmp (v_var lk_self) (v_var (d:=natsD (usedP ls)) ?_) (notin_nats i _)) rfl
   refine rwl (lk_ne rfl) ?_
   exact hide_d k3 rfl
  ·rw [idx_nat (by refine rwl (List.length_map _) (rwl hf ?_);simp) (by refine rwl (List.length_map _) ?_;unfold freeP;have:=List.length_filter_le (fun p=> !(usedP ls).contains p) (List.range 8);rw [List.length_range] at this;exact t2 this rfl),hf];rfl
 generalize hρ2:upd ρ (nm "first") (.d (.int f))=ρ2
 have m1:lk ρ2 (nm "links") = .d (linksD ls):=by refine lwr hρ2 ?_;exact (lk_ne rfl).trans k1
 have m2:lk ρ2 (nm "mates") = .d (matesD ms):=by refine lwr hρ2 ?_;exact (lk_ne rfl).trans k2
 have m3:lk ρ2 (nm "used") = .d (natsD (usedP ls)):=by refine lwr hρ2 ?_;exact (lk_ne rfl).trans k3
 have m4:lk ρ2 (nm "first") = .d (.int f):=lkS hρ2
 have hmf:ms[f]? = some (ms.getD f []):=by refine rwl List.getD_eq_getElem?_getD (rwl (List.getElem?_eq_getElem (by exact Nat.lt_of_lt_of_eq hf8 (id (Eq.symm hm)))) ?_);rfl
 have r1:ev (Phi n) (BB none) (cmpr (add (vr "links") (li [li [vr "first", vr "q"]])) "q" (.idx (vr "mates") (vr "first")) [.cmp .NotIn (vr "q") (vr "used")]) ρ2=some (.list ((longerP ms ls).map linksD)):=by
  refine (ev_filterT (as:=ms.getD f []) (f:=fun (n:Nat)=>PyData.int n) (p:=fun q=> !(usedP ls).contains q) (g:=fun q=>linksD (ls++[(f,q)])) (v_idx (z:=natsD (ms.getD f [])) (v_var m2) (v_var m4) ?_) rfl ?_ (fun q hq=> ?_) fun q hq Z=> ?_).trans ?_
  ·rw [idx_nat (by refine rwl (List.length_map _) ?_;exact Nat.lt_of_lt_of_eq hf8 (id (Eq.symm hm))) (by refine rwl (List.length_map _) ?_;exact Eq.symm hm▸Eq.symm hs▸Nat.le_of_ble_eq_true rfl),List.getElem?_map,hmf];rfl
  ·have:=hml _ (List.mem_of_getElem? hmf);exact t2 this rfl
  ·refine va_one (v_cmp (v_var lk_self) (v_var (d:=natsD (usedP ls)) ?_) (notin_nats q _)) rfl
   refine rwl (lk_ne rfl) ?_
   exact hide_d m3 rfl
  ·refine v_bin (v_var (d:=linksD ls) ?_) (v_list (vl_mes1 (v_list (vl_mes2 (v_var (d:= .int f) ?_) (v_var lk_self))))) ?_
   ·refine rwl (lk_ne rfl) ?_;exact hide_d m1 rfl
   ·refine rwl (lk_ne rfl) ?_;exact hide_d m4 rfl
   ·simp only [bAI,bAS,bAL,bSI,bMI,bML,bOI,bDI,List.length_map]
    refine rwl (if_pos (by simp;exact t2 (Nat.lt_succ_of_le hl) rfl)) ?_
    show _=some (PyData.list (List.map linkD _))
    refine rwl List.map_append ?_;rfl
  ·unfold longerP
   refine rwl hf ?_
   simp only [List.map_map]
   rfl
 have t1:exs (Phi n) (BB none) GG pLonger [(nm "links", .d (linksD ls)),(nm "mates", .d (matesD ms))]=some (ρ2,some (.list ((longerP ms ls).map linksD))):=by
  refine s_cons (x_asg u1) ?_
  refine rwl hρ ?_
  refine s_cons (x_asg f1) ?_
  refine rwl hρ2 ?_
  exact s_ret (x_ret r1)
 refine rwl t1 ?_;rfl
end Mine
namespace Mine
open PySem
noncomputable def isInt (o:Option D) (i:Int):Bool:=match o with|some (.int j)=>j==i|_=>false
theorem isInt_get {o:Option D} {i:Int} (h:isInt o i=true):o=some (.int i):=by
 unfold isInt at h
 split at h
 ·rw [beq_iff_eq.mp h]
 ·cases h
noncomputable def fullM:List (List Nat):=(List.range 8).map fun p=>(List.range 8).filter fun q=> !(q==p)
noncomputable def matesP (cs:List Nat):List (List Nat):=cs.map fun c=>(List.range 8).filter fun q=>cs.getD q 8==inv c
noncomputable def roundP (ms:List (List Nat)) (lss:List Lk):List Lk:=lss.flatMap (longerP ms)
noncomputable def linkingsP (ms:List (List Nat)):List Lk:=roundP ms (roundP ms (roundP ms (roundP ms [[]])))
noncomputable def pairings:List Lk:=linkingsP fullM
noncomputable def followP (ls:Lk) (p:Nat):Nat:=match ls with
 | []=>0
 | (a,b)::r=>if p==a then (b+1)%8 else if p==b then (a+1)%8 else followP r p
noncomputable def walkP (ls:Lk):Nat->Nat->List Nat->List Nat
 | 0,_,left=>left
 | n+1,spot,left=>if left.contains spot then walkP ls n (followP ls spot) (left.filter fun x=> !(x==spot)) else left
noncomputable def countP (ls:Lk):Nat->List Nat->Nat
 | 0,_=>0
 | n+1,left=>match left with
  | []=>0
  | s::_=>countP ls n (walkP ls 9 s left)+1
noncomputable def cornersP (ls:Lk):Nat:=countP ls 9 (List.range 8)
theorem corners_all (n:Nat):(pairings.all fun m=>isInt (Phi (n+1) (nm "_law_corners") [linksD m]) (cornersP m))=true:=by kernel_rfl
noncomputable def ltOk (a b:Lk):Bool:=(match ltD 6 (linksD b) (linksD a) with|some false=>true|_=>false) && !(a==b)
noncomputable def pairwiseB (r:Lk->Lk->Bool):List Lk->Bool
 | []=>true
 | a::l=>l.all (r a)&&pairwiseB r l
theorem pairs_up:pairwiseB ltOk pairings=true:=by decide +kernel
theorem round_lens:(roundP fullM [[]]).length=7/\(roundP fullM (roundP fullM [[]])).length=35/\(roundP fullM (roundP fullM (roundP fullM [[]]))).length=105/\pairings.length=105:=by decide +kernel
noncomputable def genusP (cs:List Nat):Nat:=if struckP cs==[] then 0 else if commP (struckP cs) then 1 else 2
noncomputable def maxL (l:List Nat):Nat:=l.foldl max 0
noncomputable def good (cs:List Nat):Bool:=
 let ls:=linkingsP (matesP cs)
 decide (1<=ls.length)&&decide (ls.length<64)&&(maxL (ls.map cornersP)==5-2*genusP cs)
noncomputable def openS (op:List Nat) (c:Nat):List Nat:=if op.contains (inv c) then op.erase (inv c) else c::op
noncomputable def dfs (chk:List Nat->Bool):Nat->List Nat->List Nat->Nat->Bool
 | 0,cs,op,_=>op.length != 0 || chk cs
 | n+1,cs,op,m=>(List.range (2*m+1)).all fun c=>
   decide (n<(openS op c).length) || dfs chk n (cs++[c]) (openS op c) (if c==2*m then m+1 else m)
theorem beqN (x a:Nat):(x==a)=Nat.beq x a:=by
 cases h:Nat.beq x a with
 | true=>exact beq_iff_eq.2 (Nat.eq_of_beq_eq_true h)
 | false=>exact beq_eq_false_iff_ne.2 (Nat.ne_of_beq_eq_false h)
noncomputable def bi {α:Type} (b:Bool) (x y:α):α:= @Bool.rec (fun Z=>α) y x b
theorem noF (b:Bool):(!b)=bi b false true:=by cases b<;>rfl
theorem apF {α:Type} (a b:List α):a++b=W.R.appendR a b:=by rw [<- W.R.appendR_eq];rfl
noncomputable def r8:List Nat:=[0,1,2,3,4,5,6,7]
theorem r8_eq:List.range 8=r8:=rfl
noncomputable def memF (l:List Nat) (x:Nat):Bool:= @List.rec Nat (fun Z=>Bool) false (fun a Z ih=>bi (Nat.beq x a) true ih) l
theorem memF_eq (x:Nat) : ∀ l:List Nat,l.contains x=memF l x
 | []=>rfl
 | a::l=>by
  show (match x==a with|true=>true|false=>l.contains x)=bi (Nat.beq x a) true (memF l x)
  rw [memF_eq x l,beqN];cases Nat.beq x a<;>rfl
noncomputable def nthF {α:Type} (d:α) (l:List α):Nat->α:= @List.rec α (fun Z=>Nat->α) (fun Z=>d) (fun a Z ih n=> @Nat.rec (fun Z=>α) a (fun k Z=>ih k) n) l
theorem nthF_eq {α:Type} (d:α) : ∀ (l:List α) (n:Nat),l.getD n d=nthF d l n
 | [],_=>rfl
 | _::_,0=>rfl
 | _::l,n+1=>nthF_eq d l n
noncomputable def usF (ls:Lk):List Nat:= @List.rec (Nat×Nat) (fun Z=>List Nat) [] (fun a Z ih=>a.1::a.2::ih) ls
theorem usF_eq : ∀ ls,usedP ls=usF ls
 | []=>rfl
 | a::l=>congrArg (a.1::a.2 :: ·) (usF_eq l)
noncomputable def outF (ls:Lk):List Nat->List Nat:=W.R.filterR fun q=>bi (memF (usF ls) q) false true
noncomputable def lonF (ms:List (List Nat)) (ls:Lk):List Lk:=
 @List.rec Nat (fun Z=>List Lk) [] (fun f Z Z=>W.R.mapR (fun q=>W.R.appendR ls [(f,q)]) (outF ls (nthF [] ms f))) (outF ls r8)
theorem lonF_eq (ms:List (List Nat)):longerP ms=lonF ms:=by
 funext ls
 unfold longerP lonF freeP outF
 simp only [memF_eq,W.R.filterR_eq,usF_eq,W.R.mapR_eq,apF,nthF_eq,noF,r8_eq]
 cases W.R.filterR (fun q=>bi (memF (usF ls) q) false true) r8<;>rfl
noncomputable def invF (c:Nat):Nat:=bi (Nat.beq (Nat.mod c 2) 0) (Nat.add c 1) (Nat.sub c 1)
theorem invF_eq (c:Nat):inv c=invF c:=by
 have h:(c%2==0)=Nat.beq (Nat.mod c 2) 0:=beqN _ _
 unfold inv invF
 rw [<- h]
 by_cases q:c%2=0
 ·rw [if_pos q,q];rfl
 ·rw [if_neg q,beq_eq_false_iff_ne.2 q];rfl
noncomputable def rouF (ms:List (List Nat)) (l:List Lk):List Lk:=W.R.flattenR (W.R.mapR (lonF ms) l)
theorem rouF_eq (ms:List (List Nat)) (l:List Lk):roundP ms l=rouF ms l:=by
 unfold roundP rouF List.flatMap;rw [W.R.flattenR_eq,W.R.mapR_eq,lonF_eq]
noncomputable def linF (cs:List Nat):List Lk:=(fun f=>f (f (f (f [[]])))) (rouF (W.R.mapR (fun c=>W.R.filterR (fun q=>Nat.beq (nthF 8 cs q) (invF c)) r8) cs))
theorem linF_eq (cs:List Nat):linkingsP (matesP cs)=linF cs:=by
 unfold linkingsP linF matesP
 simp only [rouF_eq,W.R.filterR_eq,beqN,invF_eq,W.R.mapR_eq,nthF_eq,r8_eq]
noncomputable def folF (ls:Lk) (p:Nat):Nat:= @List.rec (Nat×Nat) (fun Z=>Nat) 0 (fun a Z ih=>bi (Nat.beq p a.1) (Nat.mod (Nat.add a.2 1) 8) (bi (Nat.beq p a.2) (Nat.mod (Nat.add a.1 1) 8) ih)) ls
theorem folF_eq (p:Nat) : ∀ ls,followP ls p=folF ls p
 | []=>rfl
 | (a,b)::r=>by
  show (if (p==a)=true then (b+1)%8 else if (p==b)=true then (a+1)%8 else followP r p)=bi (Nat.beq p a) _ (bi (Nat.beq p b) _ (folF r p))
  rw [folF_eq p r,beqN,beqN];cases Nat.beq p a<;>cases Nat.beq p b<;>rfl
noncomputable def walF (ls:Lk) (n:Nat):Nat->List Nat->List Nat:= @Nat.rec (fun Z=>Nat->List Nat->List Nat) (fun Z l=>l) (fun Z ih s l=>bi (memF l s) (ih (folF ls s) (W.R.filterR (fun x=>bi (Nat.beq x s) false true) l)) l) n
theorem walF_eq (ls:Lk) : ∀ n s l,walkP ls n s l=walF ls n s l
 | 0,_,_=>rfl
 | n+1,s,l=>by
  show (if l.contains s=true then walkP ls n (followP ls s) (l.filter fun x=> !(x==s)) else l)=bi (memF l s) (walF ls n (folF ls s) (W.R.filterR (fun x=>bi (Nat.beq x s) false true) l)) l
  simp only [walF_eq ls n,folF_eq,memF_eq,W.R.filterR_eq,noF,beqN];cases memF l s<;>rfl
noncomputable def couF (ls:Lk) (n:Nat):List Nat->Nat:= @Nat.rec (fun Z=>List Nat->Nat) (fun Z=>0) (fun Z ih l=> @List.rec Nat (fun Z=>Nat) 0 (fun s Z Z=>Nat.succ (ih (walF ls 9 s l))) l) n
theorem couF_eq (ls:Lk) : ∀ n l,countP ls n l=couF ls n l
 | 0,_=>rfl
 | _+1,[]=>rfl
 | n+1,s::l=>(congrArg Nat.succ ((couF_eq ls n _).trans (congrArg _ (walF_eq ls 9 s _))) :)
noncomputable def droF (n:Nat):List Nat->List Nat:= @Nat.rec (fun Z=>List Nat->List Nat) (fun l=>l) (fun Z ih l=> @List.rec Nat (fun Z=>List Nat) [] (fun Z t Z=>ih t) l) n
noncomputable def takF (n:Nat):List Nat->List Nat:= @Nat.rec (fun Z=>List Nat->List Nat) (fun Z=>[]) (fun Z ih l=> @List.rec Nat (fun Z=>List Nat) [] (fun a t Z=>a::ih t) l) n
theorem droF_eq : ∀ n (l:List Nat),l.drop n=droF n l
 | 0,_=>rfl
 | _+1,[]=>rfl
 | n+1,_::l=>droF_eq n l
theorem takF_eq : ∀ n (l:List Nat),l.take n=takF n l
 | 0,_=>rfl
 | _+1,[]=>rfl
 | n+1,a::l=>congrArg (a :: ·) (takF_eq n l)
theorem lEqN (a b:List Nat):(a==b)=W.Fast.lEq a b:=by
 cases h:W.Fast.lEq a b with
 | true=>exact beq_iff_eq.2 (W.Fast.lEq_iff.1 h)
 | false=>exact beq_eq_false_iff_ne.2 fun e=>Bool.noConfusion (h.symm.trans (W.Fast.lEq_iff.2 e))
noncomputable def comF (r:List Nat):Bool:=W.R.anyR (List.range r.length) fun turn=>(fun w=>(fun b o=>W.R.anyR (List.range (r.length/2+1)) fun i=>W.R.anyR (List.range (i+1)) fun j=>W.Fast.lEq b (W.R.appendR (W.R.appendR (droF i o) (droF j (takF i o))) (takF j o))) (droF (r.length/2) w) (W.R.mapR inv (takF (r.length/2) w).reverse)) (W.R.appendR (droF turn r) (takF turn r))
theorem comF_eq (r:List Nat):commP r=comF r:=by
 unfold commP commW commT backP comF
 simp only [W.R.anyR_eq,droF_eq,takF_eq,W.R.mapR_eq,apF,lEqN]
noncomputable def gooF (cs:List Nat):Bool:=(fun ls g=>bi (Nat.ble 1 (List.length ls)) (bi (Nat.ble (List.length ls) 63) (Nat.beq (maxL (W.R.mapR (fun l=>couF l 9 r8) ls)) (Nat.sub 5 (Nat.mul 2 (@List.rec Nat (fun Z=>Nat) 0 (fun Z Z Z=>bi (comF g) 1 2) g)))) false) false) (linF cs) (struckP cs)
theorem deB (a b:Nat):decide (a<=b)=Nat.ble a b:=by
 cases q:Nat.ble a b with
 | true=>exact decide_eq_true (Nat.le_of_ble_eq_true q)
 | false=>exact decide_eq_false (Nat.not_le_of_not_ble_eq_true (fun e=>Bool.noConfusion (q.symm.trans e)))
theorem genF (g:List Nat):(if (g==[])=true then 0 else if commP g=true then 1 else 2) = @List.rec Nat (fun Z=>Nat) 0 (fun Z Z Z=>bi (comF g) 1 2) g:=by
 rw [comF_eq]
 cases g with
 | nil=>rfl
 | cons a t=>show (if comF (a::t)=true then 1 else 2)=bi (comF (a::t)) 1 2;cases comF (a::t)<;>rfl
theorem gooF_eq:good=gooF:=by
 funext cs
 show (decide (1<=(linkingsP (matesP cs)).length)&&decide ((linkingsP (matesP cs)).length+1<=64)&&(maxL ((linkingsP (matesP cs)).map cornersP)==5-2*genusP cs))=_
 have h:cornersP=fun l=>couF l 9 r8:=funext fun l=>couF_eq l 9 _
 unfold genusP
 rw [genF,linF_eq,h,W.R.mapR_eq,beqN,deB,deB]
 show (Nat.ble 1 (linF cs).length&&Nat.ble (linF cs).length 63&&_)=bi (Nat.ble 1 (linF cs).length) (bi (Nat.ble (linF cs).length 63) _ false) false
 cases Nat.ble 1 (linF cs).length<;>cases Nat.ble (linF cs).length 63<;>rfl
theorem all_good:dfs good 8 [] [] 0=true:=by rw [gooF_eq];k_qdec
end Mine
namespace Mine
open PySem
structure Ren (Q:Nat->Prop) (f:Nat->Nat):Prop where
 cl : ∀ c,Q c->Q (inv c)
 com : ∀ c,Q c->f (inv c)=inv (f c)
 inj : ∀ c d,Q c->Q d->f c=f d->c=d
noncomputable def AllQ (Q:Nat->Prop) (l:List Nat):Prop:= ∀ c∈l,Q c
section
variable {Q:Nat->Prop} {f:Nat->Nat}
theorem AllQ.app {a b:List Nat} (x:AllQ Q a) (y:AllQ Q b):AllQ Q (a++b):=fun c hc=>(List.mem_append.mp hc).elim (x c) (y c)
theorem AllQ.take {a:List Nat} (x:AllQ Q a) (n:Nat):AllQ Q (a.take n):=fun c hc=>x c (List.mem_of_mem_take hc)
theorem AllQ.drop {a:List Nat} (x:AllQ Q a) (n:Nat):AllQ Q (a.drop n):=fun c hc=>x c (List.mem_of_mem_drop hc)
theorem AllQ.one {c:Nat} (h:Q c):AllQ Q [c]:=fun d hd=>by refine rwl (List.mem_singleton.mp hd) ?_;exact h
theorem AllQ.back (R:Ren Q f) {a:List Nat} (x:AllQ Q a):AllQ Q (backP a):=fun c hc=>by
 obtain ⟨d,hd,rfl⟩:=List.mem_map.mp hc
 exact R.cl d (x d (List.mem_reverse.mp hd))
theorem map_beq (R:Ren Q f) : ∀ {a b:List Nat},AllQ Q a->AllQ Q b->(a.map f==b.map f)=(a==b)
 | [],[],_,_=>rfl
 | [],_::_,_,_=>rfl
 | _::_,[],_,_=>rfl
 | x::a,y::b,ha,hb=>by
  have ih:=map_beq R (a:=a) (b:=b) (fun c hc=>ha c (List.mem_cons_of_mem _ hc)) (fun c hc=>hb c (List.mem_cons_of_mem _ hc))
  have hxy:(f x==f y)=(x==y):=by
   by_cases q:x=y
   ·refine rwl q ?_;simp
   ·exact rwl (beq_eq_false_iff_ne.mpr q) (rwl (beq_eq_false_iff_ne.mpr fun z=>q (R.inj x y (ha x List.mem_cons_self) (hb y List.mem_cons_self) z)) rfl)
  show (f x==f y&&a.map f==b.map f)=(x==y&&a==b)
  exact rwl hxy (rwl ih rfl)
theorem back_map (R:Ren Q f) {a:List Nat} (x:AllQ Q a):backP (a.map f)=(backP a).map f:=by
 unfold backP
 refine lwr List.map_reverse (rwl List.map_map (rwl List.map_map ?_))
 apply List.map_congr_left
 intro c hc
 exact (R.com c (x c (List.mem_reverse.mp hc))).symm
theorem last_map (a:List Nat):lastL (a.map f)=(lastL a).map f:=by unfold lastL;exact rwl (List.length_map _) (rwl List.map_drop rfl)
theorem init_map (a:List Nat):initL (a.map f)=(initL a).map f:=by unfold initL;exact rwl (List.length_map _) (rwl List.map_take rfl)
theorem AllQ.last {a:List Nat} (x:AllQ Q a):AllQ Q (lastL a):=x.drop _
theorem stk_map (R:Ren Q f) {r:List Nat} {x:Nat} (hr:AllQ Q r) (hx:Q x):stkS (r.map f) (f x)=(stkS r x).map f/\AllQ Q (stkS r x):=by
 have e:(backP (lastL (r.map f))==[f x])=(backP (lastL r)==[x]):=by
  refine rwl (last_map _) (rwl (back_map R hr.last) ?_)
  exact map_beq R (AllQ.back R hr.last) (.one hx)
 unfold stkS
 refine rwl e ?_
 split
 ·exact ⟨init_map r,hr.take _⟩
 ·exact ⟨by simp,hr.app (.one hx)⟩
theorem fold_map (R:Ren Q f) : ∀ {cs r:List Nat},AllQ Q cs->AllQ Q r->(cs.map f).foldl stkS (r.map f)=(cs.foldl stkS r).map f/\AllQ Q (cs.foldl stkS r)
 | [],r,_,hr=>⟨rfl,hr⟩
 | c::cs,r,hc,hr=>by
  refine ea02 (stk_map R hr (hc c List.mem_cons_self)) fun e h=> ?_
  refine rwl List.map_cons (rwl List.foldl_cons ?_);rw [List.foldl_cons];refine rwl e ?_
  exact fold_map R (fun d hd=>hc d (List.mem_cons_of_mem _ hd)) h
theorem whC_map (R:Ren Q f) {r:List Nat} (hr:AllQ Q r):whC (r.map f)=whC r:=by
 unfold whC
 exact rwl (List.length_map _) (rwl (last_map _) (rwl (back_map R hr.last) (lwr List.map_take (rwl (map_beq R (AllQ.back R hr.last) (hr.take _)) rfl))))
theorem whS_map (r:List Nat):whS (r.map f)=(whS r).map f:=by unfold whS;exact rwl (init_map _) (rwl List.map_drop rfl)
theorem iter_map (R:Ren Q f) : ∀ (n:Nat) {r:List Nat},AllQ Q r->iter whC whS n (r.map f)=(iter whC whS n r).map (·.map f) /\ ∀ r',iter whC whS n r=some r'->AllQ Q r'
 | 0,r,_=>⟨rfl,fun r' e=>by exact nnE e⟩
 | n+1,r,hr=>by
  unfold iter
  refine rwl (whC_map R hr) ?_
  by_cases q:whC r=true
  ·refine rwl (if_pos q) (rwl (if_pos q) (rwl (whS_map _) ?_))
   exact iter_map R n ((hr.take _).drop _)
  ·refine rwl (if_neg q) (rwl (if_neg q) ?_)
   exact ⟨rfl,fun r' e=>by obtain rfl:=Option.some.inj e;exact hr⟩
theorem struck_map (R:Ren Q f) {cs:List Nat} (h:AllQ Q cs):struckP (cs.map f)=(struckP cs).map f/\AllQ Q (struckP cs):=by
 refine ea02 (fold_map R (cs:=cs) (r:=[]) h (fun c hc=>by exact nomatch hc)) fun e1 h1=> ?_
 refine ea02 (iter_map R 20 h1) fun e2 h2=> ?_
 unfold struckP
 have e1':(cs.map f).foldl stkS []=(cs.foldl stkS []).map f:=e1
 refine rwl e1' (rwl e2 ?_)
 rcases q:iter whC whS 20 (cs.foldl stkS []) with _|r
 ·exact ⟨rfl,fun c hc=>by exact nomatch hc⟩
 ·exact ⟨rfl,h2 r q⟩
theorem commT_map (R:Ren Q f) {half i j:Nat} {word other:List Nat} (hw:AllQ Q word) (ho:AllQ Q other):commT half (word.map f) (other.map f) i j=commT half word other i j:=by
 unfold commT
 have e:(other.map f).drop i++((other.map f).take i).drop j++(other.map f).take j=(other.drop i++(other.take i).drop j++other.take j).map f:=by
  simp only [List.map_append,List.map_drop,List.map_take]
 exact rwl e (lwr List.map_drop (rwl (map_beq R (hw.drop _) (((ho.drop _).app ((ho.take _).drop _)).app (ho.take _))) rfl))
theorem commP_map (R:Ren Q f) {ring:List Nat} (h:AllQ Q ring):commP (ring.map f)=commP ring:=by
 unfold commP
 refine rwl (List.length_map _) ?_
 congr 1
 funext turn
 unfold commW
 have e:(ring.map f).drop turn++(ring.map f).take turn=(ring.drop turn++ring.take turn).map f:=by simp only [List.map_append,List.map_drop,List.map_take]
 have hq:AllQ Q (ring.drop turn++ring.take turn):=(h.drop _).app (h.take _)
 have e2:backP ((ring.map f).drop turn++(ring.map f).take turn |>.take (ring.length/2))=(backP ((ring.drop turn++ring.take turn).take (ring.length/2))).map f:=by
  exact rwl e (lwr List.map_take (rwl (back_map R (hq.take _)) rfl))
 dsimp only
 refine rwl e2 (rwl e ?_)
 congr 1
 funext i
 congr 1
 funext j
 exact commT_map R hq (AllQ.back R (hq.take _))
theorem genus_map (R:Ren Q f) {cs:List Nat} (h:AllQ Q cs):genusP (cs.map f)=genusP cs:=by
 refine ea02 (struck_map R h) fun e hq=> ?_
 unfold genusP
 refine rwl e (rwl (commP_map R hq) ?_)
 have:((struckP cs).map f==([]:List Nat))=(struckP cs==[]):=by rcases struckP cs with _|_<;>rfl
 exact rwl this rfl
theorem mates_map (R:Ren Q f) {cs:List Nat} (h:AllQ Q cs) (hl:cs.length=8):matesP (cs.map f)=matesP cs:=by
 unfold matesP
 refine rwl List.map_map ?_
 apply List.map_congr_left
 intro c hc
 apply List.filter_congr
 intro q hq
 have hq:=List.mem_range.mp hq
 have e1:(cs.map f).getD q 8=f (cs.getD q 8):=by
  refine rwl List.getD_eq_getElem?_getD (rwl List.getD_eq_getElem?_getD (rwl List.getElem?_map (rwl (List.getElem?_eq_getElem (by exact Nat.lt_of_lt_of_eq hq (id (Eq.symm hl)))) ?_)));rfl
 have hm:cs.getD q 8∈cs:=by
  refine rwl List.getD_eq_getElem?_getD (rwl (List.getElem?_eq_getElem (by exact Nat.lt_of_lt_of_eq hq (id (Eq.symm hl)))) ?_);exact List.getElem_mem _
 refine rwl e1 (lwr (R.com c (h c hc)) ?_)
 by_cases z:cs.getD q 8=inv c
 ·refine rwl z ?_;simp
 ·exact rwl (beq_eq_false_iff_ne.mpr z) (rwl (beq_eq_false_iff_ne.mpr fun y=>z (R.inj _ _ (h _ hm) (R.cl c (h c hc)) y)) rfl)
theorem good_map (R:Ren Q f) {cs:List Nat} (h:AllQ Q cs) (hl:cs.length=8):good (cs.map f)=good cs:=by
 unfold good
 exact rwl (mates_map R h hl) (rwl (genus_map R h) rfl)
theorem open_map (R:Ren Q f) {op:List Nat} {c:Nat} (ho:AllQ Q op) (hc:Q c):openS (op.map f) (f c)=(openS op c).map f/\AllQ Q (openS op c):=by
 have hm : ∀ {l:List Nat},AllQ Q l -> ∀ {d},Q d->(l.map f).contains (f d)=l.contains d:=by
  intro l hl d hd
  induction l with
  | nil=>rfl
  | cons a l ih=>
   refine rwl List.map_cons (rwl List.contains_cons (rwl List.contains_cons (rwl (ih fun x hx=>hl x (List.mem_cons_of_mem _ hx)) ?_)))
   congr 1
   by_cases q:d=a
   ·refine rwl q ?_;simp
   ·exact rwl (beq_eq_false_iff_ne.mpr q) (rwl (beq_eq_false_iff_ne.mpr fun z=>q (R.inj d a hd (hl a List.mem_cons_self) z)) rfl)
 have he : ∀ {l:List Nat},AllQ Q l -> ∀ {d},Q d->(l.map f).erase (f d)=(l.erase d).map f:=by
  intro l hl d hd
  induction l with
  | nil=>rfl
  | cons a l ih=>
   refine rwl List.map_cons (rwl List.erase_cons (rwl List.erase_cons ?_))
   have:(f a==f d)=(a==d):=by
    by_cases q:a=d
    ·refine rwl q ?_;simp
    ·exact rwl (beq_eq_false_iff_ne.mpr q) (rwl (beq_eq_false_iff_ne.mpr fun z=>q (R.inj a d (hl a List.mem_cons_self) hd z)) rfl)
   refine rwl this ?_
   split
   ·rfl
   ·exact rwl List.map_cons (rwl (ih fun x hx=>hl x (List.mem_cons_of_mem _ hx)) rfl)
 unfold openS
 refine lwr (R.com c hc) (rwl (hm ho (R.cl c hc)) ?_)
 split
 ·exact ⟨he ho (R.cl c hc),fun d hd=>ho d (List.mem_of_mem_erase hd)⟩
 ·exact ⟨rfl,fun d hd=>(List.mem_cons.mp hd).elim (fun z=>z▸hc) (ho d)⟩
theorem opens_map (R:Ren Q f) : ∀ {cs op:List Nat},AllQ Q cs->AllQ Q op->(cs.map f).foldl openS (op.map f)=(cs.foldl openS op).map f
 | [],_,_,_=>rfl
 | c::cs,op,hc,ho=>by
  refine ea02 (open_map R ho (hc c List.mem_cons_self)) fun e h=> ?_
  refine rwl List.map_cons (rwl List.foldl_cons ?_);rw [List.foldl_cons];refine rwl e ?_
  exact opens_map R (fun d hd=>hc d (List.mem_cons_of_mem _ hd)) h
end
noncomputable def cod:List Nat->Nat->Nat
 | [],_=>0
 | r::rs,c=>if c=r then 0 else if c=inv r then 1 else 2+cod rs c
noncomputable def Cov (A:List Nat) (c:Nat):Prop:=c∈A\/inv c∈A
noncomputable def repS (A:List Nat) (c:Nat):List Nat:=if cod A c=2*A.length then A++[c] else A
theorem cov_inv {A:List Nat} {c:Nat} (h:Cov A c):Cov A (inv c):=h.elim (fun z=> .inr (by refine rwl (inv_inv _) ?_;exact z)) .inl
theorem cod_com : ∀ (A:List Nat) (c:Nat),Cov A c->cod A (inv c)=inv (cod A c)
 | [],c,h=>by rcases h with h|h<;>exact nomatch h
 | r::rs,c,h=>by
  unfold cod
  by_cases q1:c=r
  ·subst q1
   refine rwl (if_neg (inv_ne c)) (rwl (if_pos rfl) (rwl (if_pos rfl) ?_));rfl
  ·by_cases q2:c=inv r
   ·subst q2
    refine rwl (if_pos (inv_inv r)) (rwl (if_neg (inv_ne r)) (rwl (if_pos rfl) ?_));rfl
   ·have n1:inv c≠r:=fun z=>q2 (by exact lwr z (rwl (inv_inv _) rfl))
    have n2:inv c≠inv r:=fun z=>q1 (by exact lwr (inv_inv c) (rwl z (rwl (inv_inv _) rfl)))
    refine rwl (if_neg n1) (rwl (if_neg n2) (rwl (if_neg q1) (rwl (if_neg q2) ?_)));rw [cod_com rs c ?_]
    ·unfold inv;split<;>split<;>(first|exact Nat.sub_zero _|exact H493 (by assumption) (by assumption)|exact H494 (by assumption) (by assumption)|exact H495 (by assumption))
    ·rcases h with h|h
     ·exact (List.mem_cons.mp h).elim (fun z=>absurd z q1) .inl
     ·exact (List.mem_cons.mp h).elim (fun z=>absurd z n1) .inr
theorem cod_inj : ∀ (A:List Nat) (c d:Nat),Cov A c->Cov A d->cod A c=cod A d->c=d
 | [],c,d,h,_,_=>by rcases h with h|h<;>exact nomatch h
 | r::rs,c,d,hc,hd,e=>by
  have cv : ∀ x,Cov (r::rs) x->x≠r->x≠inv r->Cov rs x:=fun x h q1 q2=>by
   have n1:inv x≠r:=fun z=>q2 (by exact lwr z (rwl (inv_inv _) rfl))
   rcases h with h|h
   ·exact (List.mem_cons.mp h).elim (fun z=>absurd z q1) .inl
   ·exact (List.mem_cons.mp h).elim (fun z=>absurd z n1) .inr
  unfold cod at e
  by_cases c1:c=r
  ·rw [if_pos c1] at e
   by_cases d1:d=r
   ·exact rwl c1 (rwl d1 rfl)
   ·rw [if_neg d1] at e
    split at e<;>first|exact H497 e rfl|exact nomatch e
  ·rw [if_neg c1] at e
   by_cases c2:c=inv r
   ·rw [if_pos c2] at e
    by_cases d1:d=r
    ·rw [if_pos d1] at e;exact False.elim (Nat.not_lt_of_le (Nat.le_of_eq e) Nat.le.refl)
    ·rw [if_neg d1] at e
     by_cases d2:d=inv r
     ·exact rwl c2 (rwl d2 rfl)
     ·rw [if_neg d2] at e;exact H497 e rfl
   ·rw [if_neg c2] at e
    by_cases d1:d=r
    ·rw [if_pos d1] at e;exact H497 e.symm rfl
    ·rw [if_neg d1] at e
     by_cases d2:d=inv r
     ·rw [if_pos d2] at e;exact H497 e.symm rfl
     ·rw [if_neg d2] at e
      exact cod_inj rs c d (cv c hc c1 c2) (cv d hd d1 d2) (by exact Nat.add_left_cancel e)
theorem ren_cod (A:List Nat):Ren (Cov A) (cod A):=⟨fun Z h=>cov_inv h,cod_com A,cod_inj A⟩
theorem cod_le : ∀ (A:List Nat) (c:Nat),cod A c<=2*A.length
 | [],_=>Nat.le_refl _
 | r::rs,c=>by
  have:=cod_le rs c
  unfold cod
  simp only [List.length_cons]
  split
  ·exact Nat.zero_le (2*(_+1))
  ·split<;>(first|exact Nat.succ_pos _|exact H498 this)
theorem cod_new : ∀ (A:List Nat) (c:Nat),¬ Cov A c->cod A c=2*A.length
 | [],_,_=>rfl
 | r::rs,c,h=>by
  have h1:c≠r:=fun z=>h (.inl (by refine rwl z ?_;exact List.mem_cons_self))
  have h2:c≠inv r:=fun z=>h (.inr (by refine rwl z (rwl (inv_inv _) ?_);exact List.mem_cons_self))
  have ih:=cod_new rs c fun z=>h (z.elim (fun y=> .inl (List.mem_cons_of_mem _ y)) fun y=> .inr (List.mem_cons_of_mem _ y))
  unfold cod
  refine rwl (if_neg h1) (rwl (if_neg h2) (rwl ih (rwl List.length_cons ?_)));exact Nat.add_comm _ _
theorem cod_app : ∀ (A B:List Nat) (c:Nat),(Cov A c\/(∃ r,B=[r]/\(c=r)))->cod (A++B) c=cod A c
 | [],B,c,h=>by
  rcases h with h|⟨r,rfl,rfl⟩
  ·rcases h with h|h<;>exact nomatch h
  ·show cod [c] c=0
   unfold cod;exact rwl (if_pos rfl) rfl
 | r::rs,B,c,h=>by
  refine rwl List.cons_append ?_
  unfold cod
  by_cases c1:c=r
  ·exact rwl (if_pos c1) (rwl (if_pos c1) rfl)
  ·by_cases c2:c=inv r
   ·exact rwl (if_neg c1) (rwl (if_pos c2) (rwl (if_neg c1) (rwl (if_pos c2) rfl)))
   ·refine rwl (if_neg c1) (rwl (if_neg c2) (rwl (if_neg c1) (rwl (if_neg c2) ?_)));rw [cod_app rs B c ?_]
    rcases h with h|h
    ·left
     have n1:inv c≠r:=fun z=>c2 (by exact lwr z (rwl (inv_inv _) rfl))
     rcases h with h|h
     ·exact (List.mem_cons.mp h).elim (fun z=>absurd z c1) .inl
     ·exact (List.mem_cons.mp h).elim (fun z=>absurd z n1) .inr
    ·exact .inr h
noncomputable def CanW:Nat->List Nat->Prop
 | _,[]=>True
 | m,c::r=>c<=2*m/\CanW (if c=2*m then m+1 else m) r
theorem can_of : ∀ (v:List Nat) (A:List Nat),(∀ c,Cov A c->cod (v.foldl repS A) c=cod A c/\Cov (v.foldl repS A) c)/\(∀ c∈v,Cov (v.foldl repS A) c)/\CanW A.length (v.map (cod (v.foldl repS A)))
 | [],A=>⟨fun c h=>⟨rfl,h⟩,(fun c h=>by exact nomatch h),trivial⟩
 | c::v,A=>by
  refine ea03 (can_of v (repS A c)) fun h1 h2 h3=> ?_
  refine rwl List.foldl_cons ?_
  have hcov:Cov (repS A c) c/\cod (repS A c) c=cod A c/\(repS A c).length=(if cod A c=2*A.length then A.length+1 else A.length) /\ ∀ d,Cov A d->Cov (repS A c) d/\cod (repS A c) d=cod A d:=by
   unfold repS
   by_cases q:cod A c=2*A.length
   ·refine rwl (if_pos q) (rwl (if_pos q) ?_)
    refine ⟨.inl (by simp),cod_app A [c] c (.inr ⟨c,rfl,rfl⟩),by simp,fun d hd=>⟨hd.elim (fun z=> .inl (List.mem_append_left _ z)) fun z=> .inr (List.mem_append_left _ z),cod_app A [c] d (.inl hd)⟩⟩
   ·refine rwl (if_neg q) (rwl (if_neg q) ?_)
    have:Cov A c:=Classical.byContradiction fun z=>q (cod_new A c z)
    exact ⟨this,rfl,rfl,fun d hd=>⟨hd,rfl⟩⟩
  have k1:=hcov.1;have k2:=hcov.2.1;have k3:=hcov.2.2.1;have k4:=hcov.2.2.2
  refine ⟨fun d hd=> ?_,fun d hd=> ?_,?_⟩
  ·refine ea02 (k4 d hd) fun a b=> ?_
   refine ea02 (h1 d a) fun e g=> ?_
   exact ⟨e.trans b,g⟩
  ·rcases List.mem_cons.mp hd with rfl|hd
   ·exact (h1 d k1).2
   ·exact h2 d hd
  ·refine rwl List.map_cons ?_
   have e:cod (v.foldl repS (repS A c)) c=cod A c:=(h1 c k1).1.trans k2
   refine rwl e ?_
   refine ⟨cod_le A c,?_⟩
   refine lwr k3 ?_
   exact h3
theorem open_len (op:List Nat) (c:Nat):op.length<=(openS op c).length+1:=by
 unfold openS
 split
 ·rename_i h
  have:=List.length_erase (a:=inv c) (l:=op)
  refine rwl this ?_;split<;>(first|exact H499|exact Nat.le_add_right _ _)
 ·simp;exact Nat.le.step (Nat.le_add_right _ 1)
theorem opens_len : ∀ (w op:List Nat),op.length<=(w.foldl openS op).length+w.length
 | [],op=>by simp
 | c::w,op=>by
  have h1:=open_len op c
  have h2:=opens_len w (openS op c)
  refine rwl List.foldl_cons (rwl List.length_cons ?_);exact Nat.le_trans h1 (Nat.add_le_add_right h2 1)
theorem dfs_ok {chk:List Nat->Bool} : ∀ (n:Nat) (cs op:List Nat) (m:Nat),dfs chk n cs op m=true -> ∀ w,w.length=n->CanW m w->(w.foldl openS op).length=0->chk (cs++w)=true
 | 0,cs,op,m,h,w,hw,_,ho=>by
  have:w=[]:=List.eq_nil_of_length_eq_zero hw
  subst this
  refine rwl (List.append_nil _) ?_
  rcases Bool.or_eq_true_iff.mp h with h|h
  ·rw [List.foldl_nil] at ho;rw [ho] at h;exact nomatch h
  ·exact h
 | n+1,cs,op,m,h,w,hw,hc,ho=>by
  rcases w with _|⟨c,w⟩
  ·exact nomatch hw
  ·have hc1:=hc.1;have hc2:=hc.2
   have:=List.all_eq_true.mp h c (List.mem_range.mpr (by exact Nat.lt_succ_of_le hc1))
   have hw':w.length=n:=by simpa using hw
   rw [List.foldl_cons] at ho
   rcases Bool.or_eq_true_iff.mp this with q|q
   ·have:=opens_len w (openS op c)
    rw [decide_eq_true_eq] at q
    exact G500 this q hw' ho
   ·have e:(if (c==2*m)=true then m+1 else m)=if c=2*m then m+1 else m:=by
     by_cases z:c=2*m<;>simp [z]
    rw [e] at q
    have:=dfs_ok n (cs++[c]) (openS op c) _ q w hw' hc2 ho
    rwa [List.append_assoc] at this
theorem good_of {cs:List Nat} (hl:cs.length=8) (ho:(cs.foldl openS []).length=0):good cs=true:=by
 refine ea03 (can_of cs []) fun h1 h2 h3=> ?_
 have R:=ren_cod (cs.foldl repS [])
 have hq:AllQ (Cov (cs.foldl repS [])) cs:=h2
 refine lwr (good_map R hq hl) ?_
 have:=dfs_ok 8 [] [] 0 all_good (cs.map (cod (cs.foldl repS []))) (by refine rwl (List.length_map _) ?_;exact hl) h3 (by
  have:=opens_map R (op:=[]) hq (fun c hc=>by exact nomatch hc)
  rw [List.map_nil] at this
  refine rwl this (rwl (List.length_map _) ?_);exact ho)
 rwa [List.nil_append] at this
end Mine
namespace Mine
open PySem
noncomputable def SubM (ms:List (List Nat)):Prop:= ∀ f,(ms.getD f []).Sublist (fullM.getD f [])
theorem longer_sub {ms:List (List Nat)} (h:SubM ms) (ls:Lk):(longerP ms ls).Sublist (longerP fullM ls):=by
 unfold longerP
 rcases freeP ls with _|⟨f,r⟩
 ·exact List.Sublist.refl _
 ·exact ((h f).filter _).map _
theorem flatMap_sub {α β:Type} {f g:α->List β} (h : ∀ a,(f a).Sublist (g a)) {l l':List α} (s:l.Sublist l'):(l.flatMap f).Sublist (l'.flatMap g):=by
 induction s with
 | slnil=>exact List.Sublist.refl _
 | cons a _ ih=>refine rwl List.flatMap_cons ?_;exact ih.trans (List.sublist_append_right _ _)
 | cons_cons a _ ih=>refine rwl List.flatMap_cons (rwl List.flatMap_cons ?_);exact (h a).append ih
theorem round_sub {ms:List (List Nat)} (h:SubM ms) {l l':List Lk} (s:l.Sublist l'):(roundP ms l).Sublist (roundP fullM l'):=flatMap_sub (longer_sub h) s
theorem sub_mates {cs:List Nat} (hl:cs.length=8):SubM (matesP cs):=fun f=>by
 unfold matesP fullM
 refine rwl List.getD_eq_getElem?_getD (rwl List.getD_eq_getElem?_getD (rwl List.getElem?_map (rwl List.getElem?_map ?_)))
 by_cases hf:f<8
 ·refine rwl (List.getElem?_range hf) (rwl (List.getElem?_eq_getElem (by exact Nat.lt_of_lt_of_eq hf (id (Eq.symm hl)))) ?_)
  simp only [Option.map_some,Option.getD_some]
  have e:(List.range 8).filter (fun q=>cs.getD q 8==inv cs[f])=((List.range 8).filter fun q=> !(q==f)).filter (fun q=>cs.getD q 8==inv cs[f]):=by
   refine rwl List.filter_filter ?_
   apply List.filter_congr
   intro q Z
   by_cases z:q=f
   ·subst z
    have:cs.getD q 8=cs[q]:=by refine rwl List.getD_eq_getElem?_getD (rwl (List.getElem?_eq_getElem (by exact Nat.lt_of_lt_of_eq hf (id (Eq.symm hl)))) ?_);rfl
    refine rwl this (rwl (beq_eq_false_iff_ne.mpr (fun y=>inv_ne _ y.symm)) ?_);rfl
   ·simp [z]
  refine rwl e ?_
  exact List.filter_sublist
 ·refine rwl (List.getElem?_eq_none (by exact Eq.symm hl▸Nat.le_of_not_lt hf)) ?_
  exact List.nil_sublist _
theorem pair_sub {r:Lk->Lk->Bool} {l l':List Lk} (s:l.Sublist l'):pairwiseB r l'=true->pairwiseB r l=true:=by
 induction s with
 | slnil=>exact id
 | cons a _ ih=>exact fun h=>ih (andB h).2
 | cons_cons a s ih=>exact fun h=>Bool.and_eq_true_iff.mpr ⟨List.all_eq_true.mpr fun x hx=>List.all_eq_true.mp (andB h).1 x (s.mem hx),ih (andB h).2⟩
theorem longer_len {ms:List (List Nat)} {ls m:Lk} (h:m∈longerP ms ls):m.length=ls.length+1:=by
 unfold longerP at h
 split at h
 ·cases h
 ·refine ea12 (List.mem_map.mp h) fun q Z Z2=> ?_;subst Z2
  simp
theorem round_len {ms:List (List Nat)} {l:List Lk} {k:Nat} (h : ∀ m∈l,m.length=k) : ∀ m∈roundP ms l,m.length=k+1:=fun m hm=>by
 obtain ⟨ls,hls,hm⟩:=List.mem_flatMap.mp hm
 exact rwl (longer_len hm) (rwl (h ls hls) rfl)
theorem used_len (ls:Lk):(usedP ls).length=2*ls.length:=by
 unfold usedP
 induction ls with
 | nil=>rfl
 | cons a r ih=>refine rwl List.flatMap_cons (rwl List.length_append (rwl ih ?_));simp;exact Nat.add_comm _ _
theorem mem_count {l:List Nat} : ∀ (n:Nat),(∀ p<n,p∈l)->n<=l.length:=by
 intro n
 induction n generalizing l with
 | zero=>intro Z;exact Nat.zero_le _
 | succ n ih=>
  intro h
  have hn:=h n (Nat.lt_succ_self n)
  have:=ih (l:=l.erase n) fun p hp=>(List.mem_erase_of_ne (by exact Nat.ne_of_lt hp)).mpr (h p (by exact Nat.le.step hp))
  rw [List.length_erase_of_mem hn] at this
  have:0<l.length:=List.length_pos_of_mem hn
  exact Nat.add_le_of_le_sub this (by assumption)
theorem free_some {ls:Lk} (h:ls.length<=3) : ∃ f r,freeP ls=f::r:=by
 rcases e:freeP ls with _|⟨f,r⟩
 ·exfalso
  have : ∀ p<8,p∈usedP ls:=fun p hp=>Classical.byContradiction fun z=>by
   have hm:p∈freeP ls:=by
    exact List.mem_filter.mpr ⟨List.mem_range.mpr hp,by simpa using z⟩
   rw [e] at hm;cases hm
  have:=mem_count 8 this
  rw [used_len] at this
  exact Nat.not_succ_le_zero _ (Nat.sub_lt_left_of_lt_add (Nat.div_lt_of_lt_mul this) (Nat.lt_succ_of_le h))
 ·exact ⟨f,r,rfl⟩
theorem up_pair : ∀ {l:List Lk},pairwiseB ltOk l=true->upL (l.map linksD)=true
 | [],_=>rfl
 | [a],_=>rfl
 | a::b::r,h=>by
  have h2:pairwiseB ltOk (b::r)=true:=by unfold pairwiseB at h;rw [Bool.and_eq_true] at h;exact h.2
  have h1:ltOk a b=true:=by
   unfold pairwiseB at h
   rw [Bool.and_eq_true] at h
   exact List.all_eq_true.mp h.1 b List.mem_cons_self
  have ih:=up_pair h2
  rw [List.map_cons] at ih
  refine rwl List.map_cons (rwl List.map_cons ?_)
  have e:ltD 6 (linksD b) (linksD a)=some false:=by
   unfold ltOk at h1
   rw [Bool.and_eq_true] at h1
   have:=h1.1
   split at this
   ·assumption
   ·cases this
  unfold upL
  refine rwl e (rwl ih ?_);rfl
theorem eqv_link (a b:Nat×Nat):PyData.eqv (linkD a) (linkD b)=(a==b):=by
 have h : ∀ x y:Nat,PyData.eqv (.int (x:Int)) (.int (y:Int))=(x==y):=fun x y=>by
  have e1:PyData.eqv (.int (x:Int)) (.int (y:Int))=((x:Int)==(y:Int)):=by simp [PyData.eqv]
  refine rwl e1 ?_
  by_cases q:x=y
  ·subst q;simp
  ·exact rwl (beq_eq_false_iff_ne.mpr q) (rwl (beq_eq_false_iff_ne.mpr (by exact Nat.ToInt.of_diseq rfl rfl q)) rfl)
 have a1:=a.1;have a2:=a.2
 have b1:=b.1;have b2:=b.2
 show PyData.eqvAll [_,_] [_,_]=_
 simp only [PyData.eqvAll,h,Bool.and_true]
 rfl
theorem eqv_links (a b:Lk):PyData.eqv (linksD a) (linksD b)=(a==b):=by
 show PyData.eqvAll _ _=_
 exact eqvAll_map fun x Z y Z=>eqv_link x y
theorem depth_link (a:Nat×Nat):(linkD a).depth<=1:=by
 show PyData.depthAll [_,_]+1<=1
 simp [PyData.depthAll,PyData.depth]
theorem depth_links (a:Lk):(linksD a).depth<=2:=by
 show PyData.depthAll _+1<=2
 have:=depthAll_map (f:=linkD) (k:=1) (as:=a) fun x Z=>depth_link x
 exact Nat.succ_le_succ this
theorem depth_lss (l:List Lk):(PyData.list (l.map linksD)).depth<=3:=by
 show PyData.depthAll _+1<=3
 have:=depthAll_map (f:=linksD) (k:=2) (as:=l) fun x Z=>depth_links x
 exact Nat.succ_le_succ this
theorem eqv_lss (a b:List Lk):PyData.eqv (.list (a.map linksD)) (.list (b.map linksD))=(a==b):=by
 show PyData.eqvAll _ _=_
 exact eqvAll_map fun x Z y Z=>eqv_links x y
theorem pair_not {l:List Lk} (h:pairwiseB ltOk l=true) : ∀ (i:Nat) (m:Lk),l[i]? = some m->m∉l.take i:=by
 induction l with
 | nil=>intro i m e;simp at e
 | cons a r ih=>
  intro i m e
  unfold pairwiseB at h
  rw [Bool.and_eq_true] at h
  rcases i with _|i
  ·simp
  ·rw [List.getElem?_cons_succ] at e
   refine rwl List.take_succ_cons ?_
   intro hm
   rcases List.mem_cons.mp hm with rfl|hm
   ·have:=List.all_eq_true.mp h.1 m (List.mem_of_getElem? e)
    unfold ltOk at this
    simp at this
   ·exact ih h.2 i m e hm
end Mine
namespace Mine
open PySem
noncomputable def digS (k:Nat):Str:=Str.ofString (toString (k:Int))
noncomputable def tbOf (cs:List Nat):Tab:=(List.range 8).map fun k=>(L (cs.getD k 0),digS k)
theorem dig_int {k:Nat} (h:k<8):intB (.str (digS k))=some (.int k):=by
 have : ∀ k<8,isInt (intB (.str (digS k))) k=true:=by decide +kernel
 exact isInt_get (this k h)
theorem dig_ok {k:Nat} (h:k<8):okStr (digS k)=true:=by
 have : ∀ k<8,okStr (digS k)=true:=by decide +kernel
 exact this k h
theorem L_ok {c:Nat} (h:c<8):okStr (L c)=true:=by
 have : ∀ c<8,okStr (L c)=true:=by decide +kernel
 exact this c h
theorem dig_str {k:Nat} (h:k<8):strB (.int k)=some (.str (digS k)):=by
 unfold strB
 dsimp only
 refine rwl (if_pos ⟨by exact Int.natCast_nonneg _,by exact Int.ofNat_lt.2 (t2 h rfl)⟩) ?_;rfl
theorem getD_lt {cs:List Nat} (hl:cs.length=8) (h8:lt8s cs) {q:Nat} (hq:q<8) (d:Nat):cs.getD q d<8:=by
 refine rwl List.getD_eq_getElem?_getD (rwl (List.getElem?_eq_getElem (by exact Nat.lt_of_lt_of_eq hq (id (Eq.symm hl)))) ?_)
 exact h8 _ (List.getElem_mem _)
theorem getD_any {cs:List Nat} (hl:cs.length=8) {q:Nat} (hq:q<8) (d e:Nat):cs.getD q d=cs.getD q e:=by
 refine rwl List.getD_eq_getElem?_getD (rwl List.getD_eq_getElem?_getD (rwl (List.getElem?_eq_getElem (by exact Nat.lt_of_lt_of_eq hq (id (Eq.symm hl)))) ?_));rfl
theorem tb_ok {cs:List Nat} (hl:cs.length=8) (h8:lt8s cs):tabOk (tbOf cs)=true:=by
 unfold tabOk tbOf
 rw [List.all_eq_true]
 intro p hp
 refine ea12 (List.mem_map.mp hp) fun k hk Z2=> ?_;subst Z2
 have hk:=List.mem_range.mp hk
 simp only [L_ok (getD_lt hl h8 hk 0),dig_ok hk,Bool.and_self]
theorem low_letters {a c:Nat} (ha:a<8) (hc:c<8):((Txt.lower (L a)==Txt.lower (L c)) && !(L a==L c))=(a==inv c):=by
 have : ∀ a<8,∀ c<8,((Txt.lower (L a)==Txt.lower (L c)) && !(L a==L c))=(a==inv c):=by decide +kernel
 exact this a ha c hc
section
variable {Φ B:Fns} {Γ:Gens} {ρ:Loc}
theorem v_om {x:String} {f:Str} {es:MEs} {ds:List D} {u:Value} {z:D} (hx:lk ρ (nm x) = .v u) (h:evL Φ B es ρ=some ds) (hz:B f (.bool true :: .bool true::ds)=some z):ev Φ B (.om (nm x) f es) ρ=some z:=by
 show (match lk ρ (nm x) with | .v _=>(evL Φ B es ρ).bind fun ds=>B f (.bool true :: .bool true::ds)|_=>none)=_
 refine rwl hx ?_;exact bindI h hz
theorem bb_get {tb:Tab} {x:Str} (h1:okStr x=true) (h2:tabOk tb=true):BB (some tb) (nm "get_all") [.bool true,.bool true,.str x]=some (tabGet tb x):=by
 have e:BB (some tb) (nm "get_all") [.bool true,.bool true,.str x]=if okStr x&&tabOk tb then some (tabGet tb x) else none:=by rfl
 refine rwl e (rwl h1 (rwl h2 ?_));rfl
theorem bb_items {tb:Tab} (h2:tabOk tb=true):BB (some tb) (nm "items") [.bool true,.bool true]=some (tabItems tb):=by
 have e:BB (some tb) (nm "items") [.bool true,.bool true]=if tabOk tb then some (tabItems tb) else none:=by rfl
 refine rwl e (rwl h2 ?_);rfl
theorem bb_int {t:Option Tab} (d:D):BB t (nm "int") [d]=intB d:=by rfl
theorem bb_str {t:Option Tab} (d:D):BB t (nm "str") [d]=strB d:=by rfl
theorem bb_sorted {t:Option Tab} (d:D):BB t (nm "sorted") [d]=sortedB d:=by rfl
theorem bb_max {t:Option Tab} (d:D):BB t (nm "max") [d]=maxB d:=by rfl
theorem bb_join {t:Option Tab} (sep:Str) (d:D):BB t (Str.ofString "join") [.str sep,d]=joinB sep d:=by
 have e:BB t (Str.ofString "join") [.str sep,d]=if Str.ofString "join" == nm "join" then joinB sep d else none:=by rfl
 exact rwl e (rwl (if_pos (by decide +kernel)) rfl)
theorem row_idx {cs:List Nat} (hl:cs.length=8) {q:Nat} (hq:q<8):idxD (rowS cs) (.int q)=some (LD (cs.getD q 0)):=by
 rw [idx_nat (by refine rwl (List.length_map _) ?_;exact Nat.lt_of_lt_of_eq hq (id (Eq.symm hl))) (by refine rwl (List.length_map _) ?_;simp [szL];exact Eq.symm hl▸Nat.le_of_ble_eq_true rfl),List.getElem?_map,List.getD_eq_getElem?_getD,List.getElem?_eq_getElem (by exact Nat.lt_of_lt_of_eq hq (id (Eq.symm hl)))];rfl
noncomputable def mMates:ME:=cmpr (cmpr (.blt (nm "int") (vr "value")) "value" (.om (nm "table") (nm "get_all") (mes [vr "x"])) [ne' (.idx (vr "row") (.blt (nm "int") (vr "value"))) (vr "x")]) "x" (vr "row") []
theorem mates_ev {cs:List Nat} {u:Value} (hl:cs.length=8) (h8:lt8s cs) (hr:lk ρ (nm "row") = .d (rowS cs)) (ht:lk ρ (nm "table") = .v u):ev Φ (BB (some (tbOf cs))) mMates ρ=some (matesD (matesP cs)):=by
 have hs:szL=100000:=rfl
 refine (ev_mapT (as:=cs) (f:=LD) (g:=fun c=>natsD ((List.range 8).filter fun q=>cs.getD q 8==inv c)) (v_var hr) rfl (by exact Eq.symm hl▸Eq.symm hs▸Nat.le_of_ble_eq_true rfl) fun c hc=> ?_).trans ?_
 ·have hc8:=h8 c hc
  generalize hρ1:upd (hide [nm "x"] ρ) (nm "x") (.d (LD c))=ρ1
  have k1:lk ρ1 (nm "x") = .d (LD c):=lkS hρ1
  have k2:lk ρ1 (nm "row") = .d (rowS cs):=lkU hρ1 rfl (hide_d hr rfl)
  have k3:lk ρ1 (nm "table") = .v u:=lkU hρ1 rfl (hide_u ht rfl)
  have g1:ev Φ (BB (some (tbOf cs))) (.om (nm "table") (nm "get_all") (mes [vr "x"])) ρ1=some (tabGet (tbOf cs) (L c)):=v_om k3 (vl_mes1 (v_var k1)) (bb_get (L_ok hc8) (tb_ok hl h8))
  have g2:tabGet (tbOf cs) (L c) = .list (((List.range 8).filter fun q=>Txt.lower (L (cs.getD q 0))==Txt.lower (L c)).map fun q=> .str (digS q)):=by
   unfold tabGet tbOf
   refine rwl List.filter_map (rwl List.map_map ?_)
   rfl
  rw [g2] at g1
  refine (ev_filterT (as:=(List.range 8).filter fun q=>Txt.lower (L (cs.getD q 0))==Txt.lower (L c)) (f:=fun q=> .str (digS q)) (g:=fun (q:Nat)=> .int q) (p:=fun q=> !(L (cs.getD q 0)==L c)) g1 rfl ?_ (fun q hq=> ?_) fun q hq Z=> ?_).trans ?_
  ·have:=List.length_filter_le (fun q=>Txt.lower (L (cs.getD q 0))==Txt.lower (L c)) (List.range 8)
   rw [List.length_range] at this;exact t2 this rfl
  ·have hq8:=List.mem_range.mp (List.mem_filter.mp hq).1
   refine va_one (v_cmp (v_idx (v_var (d:=rowS cs) ?_) (v_blt (v_var lk_self) ((bb_int _).trans (dig_int hq8))) (row_idx hl hq8)) (v_var (d:=LD c) ?_) (cmp_neS _ _)) rfl
   ·refine rwl (lk_ne rfl) ?_;exact hide_d k2 rfl
   ·refine rwl (lk_ne rfl) ?_;exact hide_d k1 rfl
  ·have hq8:=List.mem_range.mp (List.mem_filter.mp hq).1
   exact v_blt (v_var lk_self) ((bb_int _).trans (dig_int hq8))
  ·refine rwl List.filter_filter ?_
   congr 3
   apply List.filter_congr
   intro q hq
   have hq8:=List.mem_range.mp hq
   exact rwl (Bool.and_comm _ _) (rwl (low_letters (getD_lt hl h8 hq8 0) hc8) (rwl (getD_any hl hq8 0 8) rfl))
 ·unfold matesP matesD
  refine rwl List.map_map ?_;rfl
noncomputable def rnd:Nat->List Lk
 | 0=>[[]]
 | n+1=>roundP fullM (rnd n)
theorem rnd_len : ∀ k<4,(rnd k).length<=105:=by
 intro k hk
 have h1:=round_lens.1;have h2:=round_lens.2.1;have h3:=round_lens.2.2.1;have _:=round_lens.2.2.2
 match k,hk with
 | 0,_=>decide
 | 1,_=>exact Nat.le_trans (Nat.le_of_eq h1) (by decide)
 | 2,_=>exact Nat.le_trans (Nat.le_of_eq h2) (by decide)
 | 3,_=>exact Nat.le_trans (Nat.le_of_eq h3) (by decide)
theorem mates_len {cs:List Nat} : ∀ m∈matesP cs,m.length<=100:=fun m hm=>by
 obtain ⟨c,_,rfl⟩:=List.mem_map.mp hm
 have:=List.length_filter_le (fun q=>cs.getD q 8==inv c) (List.range 8)
 rw [List.length_range] at this;exact Nat.le_trans this (Nat.le_of_ble_eq_true rfl)
noncomputable abbrev lssD (l:List Lk):D:= .list (l.map linksD)
noncomputable def mRound:ME:= .comp2 (vr "more") (.n (nm "links")) (vr "linkings") (.n (nm "more")) (cl "_law_longer" [vr "links", vr "mates"])
set_option tactic.hygienic true in
theorem round_ev {n:Nat} {cs:List Nat} {lss:List Lk} (hl:cs.length=8) (hm:lk ρ (nm "mates") = .d (matesD (matesP cs))) (hk:lk ρ (nm "linkings") = .d (lssD lss)) (hln:lss.length<=200) (h3 : ∀ m∈lss,m.length<=3):ev (Phi (n+1)) B mRound ρ=some (lssD (roundP (matesP cs) lss)):=by
 refine (ev_comp2T (as:=lss) (f:=linksD) (bs:=fun ls=>longerP (matesP cs) ls) (fb:=linksD) (g:=fun Z m=>linksD m) (src2:=fun ls=>lssD (longerP (matesP cs) ls)) (v_var hk) rfl (by exact Nat.le_trans hln (Nat.le_of_ble_eq_true rfl)) (fun ls hls=>⟨?_,rfl,?_⟩) fun ls hls m hm=>v_var lk_self).trans ?_
 ·refine ea21 (free_some (h3 ls hls)) fun f r hf=> ?_
  refine v_call (vl_mes2 (v_var lk_self) (v_var (d:=matesD (matesP cs)) ?_)) (phi_longer hf (by unfold matesP;refine rwl (List.length_map _) ?_;exact hl) (by have:=h3 ls hls;exact Nat.le_trans this (Nat.le_of_ble_eq_true rfl)) mates_len)
  refine rwl (lk_ne rfl) ?_;exact hide_d hm rfl
 ·have:=(longer_sub (sub_mates hl) ls).length_le
  have h2:(longerP fullM ls).length<=8:=by
   unfold longerP
   split
   ·simp
   ·rename_i f r hf
    have hf8:f<8:=by
     have:f∈freeP ls:=by refine rwl hf ?_;exact List.mem_cons_self
     exact List.mem_range.mp (List.mem_filter.mp this).1
    refine rwl (List.length_map _) ?_
    have a1:=List.length_filter_le (fun q=> !(usedP ls).contains q) (fullM.getD f [])
    have a2:(fullM.getD f []).length<=8:=by
     have : ∀ f<8,(fullM.getD f []).length<=8:=by decide +kernel
     exact this f hf8
    exact Nat.le_trans a1 a2
  exact t2 (Nat.le_trans this h2) rfl
 ·show _=some (PyData.list (List.map linksD (roundP _ _)))
  unfold roundP
  exact rwl List.map_flatMap rfl
end
end Mine
namespace Mine
open PySem
noncomputable abbrev mkS (l:List Nat):Str:=⟨l.toArray⟩
theorem mkS_len (l:List Nat):(mkS l).length=l.length:=by simp [Str.length]
theorem mkS_app (a b:List Nat):mkS a++mkS b=mkS (a++b):=by
 show (⟨a.toArray++b.toArray⟩:Str)=_
 simp
theorem mkS_beq (a b:List Nat):(mkS a==mkS b)=(a==b):=by
 by_cases q:a=b
 ·subst q;simp
 ·refine rwl (beq_eq_false_iff_ne.mpr q) ?_;rw [beq_eq_false_iff_ne.mpr fun z=>q ?_]
  have:=congrArg (fun s:Str=>s.cps.toList) z
  simpa using this
theorem clp_le (v:Option Int) (d n:Nat) (hd:d<=n):clp v d n<=n:=by
 rcases v with _|i
 ·exact hd
 ·unfold clp
  dsimp only
  split<;>(first|exact H420 (by assumption)|exact Nat.min_le_right _ _)
theorem sliceIx_len (lo hi:Option Int) (n:Nat):(sliceIx lo hi none n).length=clp hi n n-clp lo 0 n:=by
 have hb : ∀ (v:Option Int) (d:Nat),clipI v d n=(clp v d n:Nat):=by
  intro v d
  rcases v with _|i
  ·rfl
  ·unfold clp clipI
   by_cases q:i<0
   ·simp only [q,if_true];exact H421 q
   ·simp only [q,if_false];exact H422 q
 have e:sliceIx lo hi none n=PySem.sliceRange (clipI lo ((0:Nat):Int) n) (clipI hi n n) 1:=rfl
 refine rwl e (rwl (hb _ _) (rwl (hb _ _) ?_))
 unfold PySem.sliceRange
 have p1:((1:Int)>0)=True:=by simp
 simp only [p1,if_true,List.length_map,List.length_range]
 have g : ∀ a b:Nat,(if (a:Int)<(b:Int) then ((b:Int)-(a:Int)+1-1)/1 else (0:Int)).toNat=b-a:=by
  intro a b
  split<;>(first|exact H423|exact H424 (by assumption))
 exact g _ _
theorem sl_str {w:List Nat} {lo hi:D} {l h:Option Int} (hl:partD lo=some l) (hh:partD hi=some h) (hs:w.length<=szL):slD (.str (mkS w)) lo hi .none=some (.str (mkS ((w.take (clp h w.length w.length)).drop (clp l 0 w.length)))):=by
 have hn:partD .none=some none:=rfl
 have e:Builtin.Str.strSliceIndices l h 1 (mkS w).length=sliceIx l h none w.length:=by refine rwl (mkS_len _) ?_;rfl
 have l1:=sliceIx_len l h w.length
 have c1:=clp_le h w.length w.length (Nat.le_refl _)
 have pe:=pick_eq w l h
 unfold slD
 simp only [hl,hh,hn,Option.bind_eq_bind,Option.bind_some]
 rw [e,if_pos ⟨trivial,by refine rwl (mkS_len _) ?_;exact hs,by exact H425 l1 c1 hs⟩]
 congr 2
 by_cases q:((sliceIx l h none w.length).length==(mkS w).length)=true
 ·refine rwl (if_pos q) ?_
  rw [beq_iff_eq,mkS_len,l1] at q
  by_cases z:w.length=0
  ·have:w=[]:=List.eq_nil_of_length_eq_zero z
   subst this;simp
  ·have h1:clp h w.length w.length=w.length:=by exact H426 q c1
   have h2:clp l 0 w.length=0:=by exact H427 h1 q z
   exact rwl h1 (rwl h2 (rwl List.take_length (rwl List.drop_zero rfl)))
 ·refine rwl (if_neg q) ?_
  refine lwr pe ?_
  congr 2
  have e2:(fun (i:Nat)=>(mkS w).cps[i]?)=(fun (i:Nat)=>w[i]?):=by funext i;simp
  exact congrArg (fun f=>List.filterMap f _) e2
noncomputable def sepE:Str:=Str.ofString ""
theorem join_mk : ∀ (ls:List (List Nat)),Txt.join sepE (ls.map mkS)=mkS ls.flatten
 | []=>by rfl
 | a::r=>by
  unfold Txt.join Builtin.Str.glued
  refine rwl List.map_cons (rwl List.drop_one (rwl List.tail_cons (rwl List.headD_cons ?_)))
  have key : ∀ (r:List (List Nat)) (acc:Array Nat),(r.map mkS).foldl (fun acc p=>acc++sepE.cps++p.cps) acc=acc++r.flatten.toArray:=by
   intro r
   induction r with
   | nil=>intro acc;simp
   | cons b r ih=>
    intro acc
    refine rwl List.map_cons (rwl List.foldl_cons (rwl (ih _) ?_))
    have:sepE.cps = #[]:=by rfl
    refine rwl this ?_
    simp
  refine rwl (key _ _) ?_
  simp
theorem strs_of : ∀ (ls:List (List Nat)),strsOf (ls.map fun l=>PyData.str (mkS l))=some (ls.map mkS)
 | []=>rfl
 | a::r=>by
  refine rwl List.map_cons ?_
  unfold strsOf
  refine rwl (strs_of r) ?_;rfl
theorem join_B {ls:List (List Nat)} (h:(ls.map List.length).sum+ls.length<=1048576):joinB sepE (.list (ls.map fun l=> .str (mkS l)))=some (.str (mkS ls.flatten)):=by
 unfold joinB
 dsimp only
 refine rwl (strs_of _) (rwl (Option.bind_some _ _) ?_)
 have e:((ls.map mkS).map (·.length))=ls.map List.length:=by
  refine rwl List.map_map ?_
  apply List.map_congr_left
  intro l Z
  exact mkS_len l
 rw [if_pos ⟨by decide +kernel,by refine rwl e (rwl (List.length_map _) ?_);exact h⟩,join_mk]
theorem in_one (w:List Nat) (c:Nat):inD (.str ⟨#[c]⟩) (.str (mkS w))=some (decide (c∈w)):=by
 show some (!(Builtin.Str.occurrences (mkS w) ⟨#[c]⟩ 0 (mkS w).length 1).isEmpty)=_
 exact rwl (StrLaws.found_one _ _) rfl
inductive Sk where
 | one (c:Nat)
 | two (c:Nat)
noncomputable def Sk.cs:Sk->List Nat
 | .one c=>[c]
 | .two c=>[92,c]
noncomputable def Sk.ok:Sk->Bool
 | .one c=> !(c==92) && !(c==34)
 | .two _=>true
inductive Tk where
 | s (k:Sk)
 | q (ks:List Sk)
noncomputable def skT (ks:List Sk):List Nat:=ks.flatMap Sk.cs
noncomputable def Tk.cs:Tk->List Nat
 | .s k=>k.cs
 | .q ks=>34::(skT ks++[34])
noncomputable def Tk.ok:Tk->Bool
 | .s k=>k.ok
 | .q ks=>ks.all Sk.ok
noncomputable def Tk.out:Tk->List Nat
 | .s k=>k.cs
 | .q _=>[]
noncomputable def txt (ts:List Tk):List Nat:=ts.flatMap Tk.cs
noncomputable def outT (ts:List Tk):List Nat:=ts.flatMap Tk.out
noncomputable def item (p:Nat) (u:List Nat):D:= .tuple [.int p,.str (mkS u)]
theorem esc_one {c i:Nat} {r:List Nat} (h:(c==92)=false):escGo false i (c::r)=item i [c]::escGo false (i+1) r:=by
 rw [escGo];refine rwl (if_neg (by decide)) (rwl (eqv_str _ _) ?_)
 have:(one c==bsl)=false:=by
  have e:bsl=mkS [92]:=rfl
  refine rwl e ?_
  show (mkS [c]==mkS [92])=false
  refine rwl (mkS_beq _ _) ?_
  simpa using h
 rw [if_neg (by refine rwl this ?_;decide)];rfl
theorem esc_two {c i:Nat} {r:List Nat}:escGo false i (92::c::r)=item (i+1) [92,c]::escGo false (i+2) r:=by
 rw [escGo];refine rwl (if_neg (by decide)) (rwl (eqv_str _ _) ?_)
 have e:bsl=mkS [92]:=rfl
 have:(one 92==bsl)=true:=by refine rwl e ?_;show (mkS [92]==mkS [92])=true;refine rwl (mkS_beq _ _) ?_;rfl
 refine rwl (if_pos this) ?_;rw [escGo];refine rwl (if_pos rfl) (rwl e ?_)
 show PyData.tuple [.int _,.str (mkS [92]++mkS [c])]::_=_
 refine rwl (mkS_app _ _) ?_;rfl
theorem esc_tail {i:Nat}:escGo false i [92]=[item i [92]]:=by
 rw [escGo];refine rwl (if_neg (by decide)) (rwl (eqv_str _ _) ?_)
 have e:bsl=mkS [92]:=rfl
 have:(one 92==bsl)=true:=by refine rwl e ?_;show (mkS [92]==mkS [92])=true;refine rwl (mkS_beq _ _) ?_;rfl
 refine rwl (if_pos this) ?_;rw [escGo];refine rwl (if_pos rfl) (rwl e ?_);rfl
theorem esc_sk {k:Sk} {i:Nat} {r:List Nat} (h:k.ok=true):escGo false i (k.cs++r)=item (i+k.cs.length-1) k.cs::escGo false (i+k.cs.length) r:=by
 rcases k with c|c
 ·unfold Sk.ok at h
  rw [Bool.and_eq_true] at h
  exact esc_one (by simpa using h.1)
 ·exact esc_two
end Mine
namespace Mine
open PySem
section
variable {Φ B:Fns} {Γ:Gens} {ρ:Loc}
theorem runFor_cons {tg:Tg} {F:Loc->Res} {d:D} {r:List D} {ρ₁ ρ₂:Loc} (h1:bindT tg d ρ=some ρ₁) (h2:F ρ₁=some (ρ₂,none)):runFor tg F (d::r) ρ=runFor tg F r ρ₂:=by
 show ((bindT tg d ρ).bind fun ρ₁=>(F ρ₁).bind fun p=>match p.2 with|none=>runFor tg F r p.1|some v=>some (p.1,some v))=_
 refine rwl h1 (rwl (Option.bind_some _ _) (rwl h2 ?_));rfl
theorem bind_item {x y:Str} {p:Nat} {u:List Nat}:bindT (.t [x,y]) (item p u) ρ=some (upd (upd ρ x (.d (.int p))) y (.d (.str (mkS u)))):=by rfl
noncomputable def mStripBody:MSs:=mss [
  .ite (eq' (vr "ch") (cs "\"")) (mss [
   .ite (.cmp .Is (vr "open_pos") nn) (mss [.asg (nm "open_pos") (vr "pos")]) (mss [
    .ite (ne' (vr "start") (vr "open_pos")) (mss [.app (nm "result") (.sl (vr "addr") (vr "start") (vr "open_pos") nn)]) .nil,
    .asg (nm "start") (add (vr "pos") (ci 1)),
    .asg (nm "open_pos") nn])]) .nil]
noncomputable def openD (o:Option Nat):D:=match o with|none=> .none|some a=> .int a
noncomputable def strsD (l:List (List Nat)):List D:=l.map fun l=> .str (mkS l)
structure SJ (w:List Nat) (s:Nat) (o:Option Nat) (acc:List (List Nat)) (ρ:Loc):Prop where
 st:lk ρ (nm "start") = .d (.int s)
 op:lk ρ (nm "open_pos") = .d (openD o)
 re:lk ρ (nm "result") = .o (strsD acc)
 ad:lk ρ (nm "addr") = .d (.str (mkS w))
theorem quoS:nm "\"" = mkS [34]:=rfl
variable {w:List Nat} {s:Nat} {o:Option Nat} {acc:List (List Nat)}
theorem SJ.bind (j:SJ w s o acc ρ) (p:Nat) (u:List Nat):SJ w s o acc (upd (upd ρ (nm "pos") (.d (.int p))) (nm "ch") (.d (.str (mkS u)))):=by
 have ne : ∀ {y:Str} {b:Bd},(nm "pos" == y)=false->(nm "ch" == y)=false->lk ρ y=b->lk (upd (upd ρ (nm "pos") (.d (.int p))) (nm "ch") (.d (.str (mkS u)))) y=b:=fun h1 h2 e=>(lk_ne h2).trans ((lk_ne h1).trans e)
 exact ⟨ne rfl rfl j.st,ne rfl rfl j.op,ne rfl rfl j.re,ne rfl rfl j.ad⟩
theorem ch_ev {u:List Nat} (h:lk ρ (nm "ch") = .d (.str (mkS u))):ev Φ B (eq' (vr "ch") (cs "\"")) ρ=some (.bool (u==[34])):=
 v_cmp (v_var h) (v_c _) (by exact rwl (cmp_eqS _ _) (rwl quoS (rwl (mkS_beq _ _) rfl)))
theorem strip_other (j:SJ w s o acc ρ) {p:Nat} {u:List Nat} (hu:(u==[34])=false) : ∃ ρ₂,exs Φ B Γ mStripBody (upd (upd ρ (nm "pos") (.d (.int p))) (nm "ch") (.d (.str (mkS u))))=some (ρ₂,none)/\SJ w s o acc ρ₂:=
 ⟨_,s_last (x_ite (ch_ev lk_self) rfl (fun q=>nomatch hu.symm.trans q) fun Z=>s_nil),j.bind p u⟩
theorem strip_open (j:SJ w s none acc ρ) (p:Nat) : ∃ ρ₂,exs Φ B Γ mStripBody (upd (upd ρ (nm "pos") (.d (.int p))) (nm "ch") (.d (.str (mkS [34]))))=some (ρ₂,none)/\SJ w s (some p) acc ρ₂:=by
 have j':=j.bind p [34]
 refine ⟨_,s_last (x_ite (ch_ev lk_self) rfl (fun Z=>s_last (x_ite (x:= .bool true) (t:=true) (v_cmp (v_var j'.op) (v_c _) (by rfl)) rfl (fun Z=>s_last (x_asg (v_var (d:= .int p) ((lk_ne rfl).trans lk_self)))) fun q=>by exact nomatch q)) fun q=>by exact nomatch q),?_,?_,?_,?_⟩
 ·exact (lk_ne rfl).trans j'.st
 ·exact lk_self
 ·exact (lk_ne rfl).trans j'.re
 ·exact (lk_ne rfl).trans j'.ad
theorem cmp_neI (a b:Nat):cmpD .NotEq (.int a) (.int b)=some (!(a==b)):=by
 have e:PyData.eqv (.int (a:Int)) (.int (b:Int))=(a==b):=by
  have e1:PyData.eqv (.int (a:Int)) (.int (b:Int))=((a:Int)==(b:Int)):=by simp [PyData.eqv]
  refine rwl e1 ?_
  by_cases q:a=b
  ·subst q;simp
  ·exact rwl (beq_eq_false_iff_ne.mpr q) (rwl (beq_eq_false_iff_ne.mpr (by exact Nat.ToInt.of_diseq rfl rfl q)) rfl)
 have hd:(PyData.int (a:Int)).depth<=64:=by simp [PyData.depth]
 simp only [cEq,cNe,cLt,cLe,cGt,cGe,cIn,cNi]
 exact rwl (if_pos hd) (rwl e rfl)
theorem strip_close {a:Nat} (j:SJ w s (some a) acc ρ) (p:Nat) (hs:s<=a) (ha:a<=w.length) (hw:w.length<=1000) (hl:acc.length<=1000) : ∃ ρ₂,exs Φ B Γ mStripBody (upd (upd ρ (nm "pos") (.d (.int p))) (nm "ch") (.d (.str (mkS [34]))))=some (ρ₂,none) /\ ∃ acc',SJ w (p+1) none acc' ρ₂/\acc'.flatten=acc.flatten++(w.take a).drop s/\acc'.length<=acc.length+1:=by
 have j':=j.bind p [34]
 have hz:szL=100000:=rfl
 have sl : ∀ {ρ:Loc},SJ w s (some a) acc ρ->ev Φ B (.sl (vr "addr") (vr "start") (vr "open_pos") nn) ρ=some (.str (mkS ((w.take a).drop s))):=fun j=>by
  refine (v_sl (v_var j.ad) (v_var j.st) (v_var (d:= .int a) j.op) (v_c _) (sl_str (l:=some (s:Int)) (h:=some (a:Int)) rfl rfl (by exact t2 hw rfl))).trans ?_
  exact rwl clp_nat (rwl clp_nat (rwl (Nat.min_eq_left ha) (rwl (Nat.min_eq_left (by exact Nat.le_trans hs ha)) rfl)))
 generalize hρ1:upd (upd ρ (nm "pos") (.d (.int p))) (nm "ch") (.d (.str (mkS [34])))=ρ1 at j'
 have hp:lk ρ1 (nm "pos") = .d (.int p):=by refine lwr hρ1 ?_;exact (lk_ne rfl).trans lk_self
 have hc:lk ρ1 (nm "ch") = .d (.str (mkS [34])):=lkS hρ1
 obtain ⟨ρ2,e2,acc',j2,hp2,hf,hln⟩ : ∃ ρ2,ex Φ B Γ (.ite (ne' (vr "start") (vr "open_pos")) (mss [.app (nm "result") (.sl (vr "addr") (vr "start") (vr "open_pos") nn)]) .nil) ρ1=some (ρ2,none) /\ ∃ acc',SJ w s (some a) acc' ρ2/\lk ρ2 (nm "pos") = .d (.int p)/\acc'.flatten=acc.flatten++(w.take a).drop s/\acc'.length<=acc.length+1:=by
  by_cases q:s=a
  ·refine ⟨ρ1,x_ite (v_cmp (v_var j'.st) (v_var (d:= .int a) j'.op) (cmp_neI s a)) rfl (fun z=>by rw [q] at z;simp at z) fun Z=>s_nil,acc,j',hp,?_,by exact Nat.le.step Nat.le.refl⟩
   subst q
   have:(w.take s).drop s=[]:=List.drop_of_length_le (by refine rwl List.length_take ?_;exact Nat.min_le_left _ _)
   exact rwl this (rwl (List.append_nil _) rfl)
  ·refine ⟨_,x_ite (v_cmp (v_var j'.st) (v_var (d:= .int a) j'.op) (cmp_neI s a)) rfl (fun Z=>s_last (x_app (sl j') j'.re (by unfold strsD;refine rwl (List.length_map _) ?_;exact t2 hl rfl))) (fun z=>by simp [q] at z),acc++[(w.take a).drop s],⟨?_,?_,?_,?_⟩,?_,?_,?_⟩
   ·exact lk_setO_ne j'.st rfl
   ·exact lk_setO_ne j'.op rfl
   ·refine rwl lk_setO ?_;unfold strsD;refine rwl List.map_append ?_;rfl
   ·exact lk_setO_ne j'.ad rfl
   ·exact lk_setO_ne hp rfl
   ·simp
   ·simp
 refine ⟨upd (upd ρ2 (nm "start") (.d (.int (p+1:Nat)))) (nm "open_pos") (.d .none),?_,acc',⟨?_,?_,?_,?_⟩,hf,hln⟩
 ·refine s_last (x_ite (ch_ev hc) rfl (fun Z=>s_last (x_ite (x:= .bool false) (t:=false) (v_cmp (v_var (d:= .int a) j'.op) (v_c _) (by rfl)) rfl (fun q=>by exact nomatch q) fun Z=> ?_)) fun q=>by exact nomatch q)
  refine s_cons e2 (s_cons (x_asg (d:= .int (p+1:Nat)) (v_bin (v_var hp2) (v_c _) rfl)) (s_last (x_asg (v_c _))))
 ·exact (lk_ne rfl).trans lk_self
 ·exact lk_self
 ·exact (lk_ne rfl).trans ((lk_ne rfl).trans j2.re)
 ·exact (lk_ne rfl).trans ((lk_ne rfl).trans j2.ad)
end
noncomputable abbrev tgPC:Tg:= .t [nm "pos", nm "ch"]
section
variable {Φ B:Fns} {Γ:Gens} {w:List Nat}
theorem sk_ne {k:Sk} (h:k.ok=true):(k.cs==[34])=false:=by
 rcases k with c|c
 ·unfold Sk.ok at h
  rw [Bool.and_eq_true] at h
  have h2:(c==34)=false:=by simpa using h.2
  show ([c]==[34])=false
  simpa using h2
 ·rfl
theorem strip_sks : ∀ (ks:List Sk) (i:Nat) (r:List Nat) (s:Nat) (o:Option Nat) (acc:List (List Nat)) (ρ:Loc),ks.all Sk.ok=true->SJ w s o acc ρ ->
  ∃ ρ',SJ w s o acc ρ'/\runFor tgPC (exs Φ B Γ mStripBody) (escGo false i (skT ks++r)) ρ=runFor tgPC (exs Φ B Γ mStripBody) (escGo false (i+(skT ks).length) r) ρ'
 | [],i,r,s,o,acc,ρ,_,j=>⟨ρ,j,rfl⟩
 | k::ks,i,r,s,o,acc,ρ,h,j=>by
  rw [List.all_cons,Bool.and_eq_true] at h
  have e:skT (k::ks)++r=k.cs++(skT ks++r):=by unfold skT;exact rwl List.flatMap_cons (rwl (List.append_assoc _ _ _) rfl)
  refine rwl e (rwl (esc_sk h.1) ?_)
  refine ea12 (strip_other (Φ:=Φ) (B:=B) (Γ:=Γ) j (p:=i+k.cs.length-1) (u:=k.cs) (sk_ne h.1)) fun ρ₂ e2 j2=> ?_
  refine rwl (runFor_cons bind_item e2) ?_
  refine ea12 (strip_sks ks (i+k.cs.length) r s o acc ρ₂ h.2 j2) fun ρ' j' e'=> ?_
  refine ⟨ρ',j',e'.trans ?_⟩
  have:(skT (k::ks)).length=k.cs.length+(skT ks).length:=by unfold skT;exact rwl List.flatMap_cons (rwl List.length_append rfl)
  exact rwl this (rwl (Nat.add_assoc _ _ _) rfl)
theorem strip_tks : ∀ (ts:List Tk) (i:Nat) (tl:List Nat) (s:Nat) (acc:List (List Nat)) (ρ:Loc),ts.all Tk.ok=true->w.drop i=txt ts++tl->i<=w.length->s<=i->w.length<=500->acc.length<=i->SJ w s none acc ρ ->
  ∃ ρ' s' acc',SJ w s' none acc' ρ'/\runFor tgPC (exs Φ B Γ mStripBody) (escGo false i (txt ts++tl)) ρ=runFor tgPC (exs Φ B Γ mStripBody) (escGo false (i+(txt ts).length) tl) ρ'/\s'<=w.length/\acc'.length<=w.length/\acc'.flatten++w.drop s'=acc.flatten++(w.take i).drop s++outT ts++tl
 | [],i,tl,s,acc,ρ,_,hw,hi,hs,hl,hst,j=>by
  refine ⟨ρ,s,acc,j,rfl,by exact Nat.le_trans hs hi,by exact Nat.le_trans hst hi,?_⟩
  have e:w.drop s=(w.take i).drop s++w.drop i:=by
   conv=>lhs;rw [<- List.take_append_drop i w]
   rw [List.drop_append_of_le_length (by refine rwl List.length_take ?_;exact of_eq_true (Eq.trans (congrArg (LE.le _) (Nat.min_eq_left hi)) (eq_true hs)))]
  refine rwl e (rwl hw ?_)
  simp [txt,outT]
 | .s k::ts,i,tl,s,acc,ρ,h,hw,hi,hs,hl,hst,j=>by
  rw [List.all_cons,Bool.and_eq_true] at h
  have hk:k.ok=true:=h.1
  have e:txt (.s k::ts)++tl=k.cs++(txt ts++tl):=by unfold txt;refine rwl List.flatMap_cons (rwl (List.append_assoc _ _ _) ?_);rfl
  have el:(txt (.s k::ts)).length=k.cs.length+(txt ts).length:=by unfold txt;refine rwl List.flatMap_cons (rwl List.length_append ?_);rfl
  have hpos:0<k.cs.length:=by rcases k with _|_<;>simp [Sk.cs]
  rw [e] at hw
  have hwl:i+k.cs.length<=w.length:=by
   have:=congrArg List.length hw
   rw [List.length_drop,List.length_append] at this
   exact H155 hpos this
  have hw2:w.drop (i+k.cs.length)=txt ts++tl:=by exact lwr List.drop_drop (rwl hw (rwl List.drop_left rfl))
  refine rwl e (rwl (esc_sk hk) ?_)
  refine ea12 (strip_other (Φ:=Φ) (B:=B) (Γ:=Γ) j (p:=i+k.cs.length-1) (u:=k.cs) (sk_ne hk)) fun ρ₂ e2 j2=> ?_
  refine rwl (runFor_cons bind_item e2) ?_
  obtain ⟨ρ',s',acc',j',e',h1,h1',h2⟩:=strip_tks ts (i+k.cs.length) tl s acc ρ₂ h.2 hw2 hwl (by exact Nat.le_add_right_of_le hs) hl (by exact Nat.le_add_right_of_le hst) j2
  refine ⟨ρ',s',acc',j',?_,h1,h1',h2.trans ?_⟩
  ·exact rwl e' (rwl el (rwl (Nat.add_assoc _ _ _) rfl))
  ·have:(w.take (i+k.cs.length)).drop s=(w.take i).drop s++k.cs:=by
    have t:w.take (i+k.cs.length)=w.take i++k.cs:=by
     exact rwl List.take_add (rwl hw (rwl List.take_left rfl))
    rw [t,List.drop_append_of_le_length (by refine rwl List.length_take ?_;exact of_eq_true (Eq.trans (congrArg (LE.le _) (Nat.min_eq_left hi)) (eq_true hs)))]
   refine rwl this ?_
   unfold outT
   refine rwl List.flatMap_cons ?_
   simp [Tk.out]
 | .q ks::ts,i,tl,s,acc,ρ,h,hw,hi,hs,hl,hst,j=>by
  rw [List.all_cons,Bool.and_eq_true] at h
  have hk:ks.all Sk.ok=true:=h.1
  have e:txt (.q ks::ts)++tl=34::(skT ks++(34::(txt ts++tl))):=by unfold txt;refine rwl List.flatMap_cons ?_;simp [Tk.cs]
  have el:(txt (.q ks::ts)).length=2+(skT ks).length+(txt ts).length:=by unfold txt;refine rwl List.flatMap_cons (rwl List.length_append ?_);simp [Tk.cs];exact Eq.symm (Nat.add_comm 2 _)
  rw [e] at hw
  have hwl:i+(2+(skT ks).length)<=w.length:=by
   have:=congrArg List.length hw
   rw [List.length_drop] at this
   simp only [List.length_cons,List.length_append] at this
   exact H158 this
  have hw2:w.drop (i+(2+(skT ks).length))=txt ts++tl:=by
   refine lwr List.drop_drop (rwl hw ?_)
   have:34::(skT ks++(34::(txt ts++tl)))=(34::(skT ks++[34]))++(txt ts++tl):=by simp
   refine rwl this ?_
   have hln:2+(skT ks).length=(34::(skT ks++[34])).length:=by simp;exact Nat.add_comm 2 _
   exact rwl hln (rwl List.drop_left rfl)
  refine rwl e (rwl (esc_one rfl) ?_)
  refine ea12 (strip_open (Φ:=Φ) (B:=B) (Γ:=Γ) j i) fun ρ₂ e2 j2=> ?_
  refine rwl (runFor_cons bind_item e2) ?_
  refine ea12 (strip_sks (Φ:=Φ) (B:=B) (Γ:=Γ) ks (i+1) (34::(txt ts++tl)) s (some i) acc ρ₂ hk j2) fun ρ₃ j3 e3=> ?_
  refine rwl e3 (rwl (esc_one rfl) ?_)
  obtain ⟨ρ₄,e4,acc₄,j4,f4,n4⟩:=strip_close (Φ:=Φ) (B:=B) (Γ:=Γ) j3 (i+1+(skT ks).length) hs hi (by exact Nat.le_trans hl (Nat.le_of_ble_eq_true rfl)) (by exact H428 hst hi hl)
  refine rwl (runFor_cons bind_item e4) ?_
  have ei:i+1+(skT ks).length+1=i+(2+(skT ks).length):=by exact H162
  rw [ei] at j4 ⊢
  refine ea35 (strip_tks ts (i+(2+(skT ks).length)) tl (i+(2+(skT ks).length)) acc₄ ρ₄ h.2 hw2 hwl (Nat.le_refl _) hl (by exact H429 n4 hst) j4) fun ρ' s' acc' j' e' h1 h1' h2=> ?_
  refine ⟨ρ',s',acc',j',?_,h1,h1',h2.trans ?_⟩
  ·refine rwl e' (rwl el ?_);congr 2;exact Nat.add_assoc _ (2+_) _
  ·have:(w.take (i+(2+(skT ks).length))).drop (i+(2+(skT ks).length))=[]:=List.drop_of_length_le (by refine rwl List.length_take ?_;exact Nat.min_le_left (_+(2+_)) _)
   refine rwl this (rwl f4 ?_)
   unfold outT
   refine rwl List.flatMap_cons ?_
   simp [Tk.out]
end
end Mine
namespace Mine
open PySem
theorem out_all : ∀ (ts:List Tk),34∉txt ts->outT ts=txt ts
 | [],_=>rfl
 | .s k::ts,h=>by
  unfold txt outT at *
  rw [List.flatMap_cons] at *
  refine rwl List.flatMap_cons ?_
  have:=out_all ts fun z=>h (List.mem_append_right _ z)
  unfold txt outT at this
  refine rwl this ?_;rfl
 | .q ks::ts,h=>by
  exfalso
  apply h
  unfold txt
  refine rwl List.flatMap_cons ?_
  exact List.mem_append_left _ (by simp [Tk.cs])
theorem out_le : ∀ (ts:List Tk),(outT ts).length<=(txt ts).length
 | []=>Nat.le_refl _
 | t::ts=>by
  have ih:=out_le ts
  unfold outT txt at *
  refine rwl List.flatMap_cons (rwl List.flatMap_cons (rwl List.length_append (rwl List.length_append ?_)))
  have:t.out.length<=t.cs.length:=by rcases t with _|_<;>simp [Tk.out,Tk.cs]
  exact Nat.add_le_add this ih
theorem phi_strip {n:Nat} {ts:List Tk} {tl:List Nat} (hok:ts.all Tk.ok=true) (htl:tl=[]\/tl=[92]) (hw:(txt ts++tl).length<=500):Phi (n+1) (nm "_strip_quoted_realnames") [.str (mkS (txt ts++tl))]=some (.str (mkS (outT ts++tl))):=by
 have hz:szL=100000:=rfl
 generalize hwe:txt ts++tl=w at hw ⊢
 have e:Phi (n+1) (nm "_strip_quoted_realnames") [.str (mkS w)]=(exs (Phi n) (BB none) GG pStrip [(nm "addr", .d (.str (mkS w)))]).bind (·.2):=by rfl
 refine rwl e ?_
 have a0:lk [(nm "addr", Bd.d (.str (mkS w)))] (nm "addr") = .d (.str (mkS w)):=by rfl
 have c0:ev (Phi n) (BB none) (.cmp .NotIn (cs "\"") (vr "addr")) [(nm "addr", .d (.str (mkS w)))]=some (.bool (!decide (34∈w))):=by
  refine v_cmp (v_c _) (v_var a0) ?_
  show (inD (.str (nm "\"")) (.str (mkS w))).map (!·)=_
  refine rwl quoS (rwl (in_one _ _) ?_);rfl
 by_cases q:34∈w
 ·have t1 : ∃ ρ',exs (Phi n) (BB none) GG pStrip [(nm "addr", .d (.str (mkS w)))]=some (ρ',some (.str (mkS (outT ts++tl)))):=by
   generalize hρ1:upd (upd (upd [(nm "addr", Bd.d (.str (mkS w)))] (nm "start") (.d (.int (0:Nat)))) (nm "open_pos") (.d .none)) (nm "result") (.o [])=ρ1
   have j:SJ w 0 none [] ρ1:=by refine lwr hρ1 ?_;exact ⟨by rfl,by rfl,by rfl,by rfl⟩
   obtain ⟨ρ2,s',acc',j2,e2,h1,h1',h2⟩:=strip_tks (Φ:=Phi n) (B:=BB none) (Γ:=GG) ts 0 tl 0 [] ρ1 hok (by refine rwl List.drop_zero ?_;exact hwe.symm) (Nat.zero_le _) (Nat.le_refl _) hw (Nat.zero_le _) j
   obtain ⟨ρ3,j3,e3⟩ : ∃ ρ3,SJ w s' none acc' ρ3/\runFor tgPC (exs (Phi n) (BB none) GG mStripBody) (escItems (mkS w)) ρ1=some (ρ3,none):=by
    have e4:escItems (mkS w)=escGo false 0 (txt ts++tl):=by refine rwl hwe ?_;rfl
    refine rwl e4 (rwl e2 ?_)
    rcases htl with rfl|rfl
    ·exact ⟨ρ2,j2,rfl⟩
    ·refine ea12 (strip_other (Φ:=Phi n) (B:=BB none) (Γ:=GG) j2 (p:=0+(txt ts).length) (u:=[92]) rfl) fun ρ3 e5 j3=> ?_
     refine ⟨ρ3,j3,?_⟩
     refine rwl esc_tail (rwl (runFor_cons bind_item e5) ?_);rfl
   have hg:GG (nm "_iter_escaped_chars") (.str (mkS w))=some (escItems (mkS w)):=by
    unfold GG
    exact rwl (if_pos (beq_self_eq_true _)) rfl
   simp only [List.flatten_nil,List.take_zero,List.drop_nil,List.nil_append] at h2
   have ln:ev (Phi n) (BB none) (len' (vr "addr")) ρ3=some (.int w.length):=by
    refine v_blt (v_var j3.ad) ?_
    have:BB none (nm "len") [.str (mkS w)]=lenB (.str (mkS w)):=by rfl
    refine rwl this ?_
    unfold lenB
    dsimp only
    exact rwl (mkS_len _) (rwl (if_pos (by exact t2 hw rfl)) rfl)
   have fin : ∃ ρ4 acc4,ex (Phi n) (BB none) GG (.ite (.cmp .Lt (vr "start") (len' (vr "addr"))) (mss [.app (nm "result") (.sl (vr "addr") (vr "start") nn nn)]) .nil) ρ3=some (ρ4,none)/\lk ρ4 (nm "result") = .o (strsD acc4)/\acc4.flatten=outT ts++tl/\acc4.length<=w.length+1:=by
    by_cases z:s'<w.length
    ·refine ⟨_,acc'++[w.drop s'],x_ite (t:=true) (v_cmp (t:=true) (v_var j3.st) ln (by simp [cEq,cNe,cLt,cLe,cGt,cGe,cIn,cNi];exact z)) rfl (fun Z=>s_last (x_app ((v_sl (v_var j3.ad) (v_var j3.st) (v_c _) (v_c _) (sl_str (l:=some (s':Int)) (h:=none) rfl rfl (by exact t2 hw rfl)))) j3.re (by unfold strsD;refine rwl (List.length_map _) ?_;exact t2 (Nat.le_trans h1' hw) rfl))) (fun q=>by exact nomatch q),?_,?_,by simp;exact h1'⟩
     ·refine rwl lk_setO ?_;rw [clp_none];refine rwl clp_nat (rwl List.take_length (rwl (drop_min _ _) ?_));unfold strsD;refine rwl List.map_append ?_;rfl
     ·refine rwl List.flatten_append ?_;simpa using h2
    ·refine ⟨ρ3,acc',x_ite (t:=false) (v_cmp (t:=false) (v_var j3.st) ln (by simp [cEq,cNe,cLt,cLe,cGt,cGe,cIn,cNi];exact Nat.le_of_not_lt z)) rfl (fun q=>by exact nomatch q) (fun Z=>s_nil),j3.re,?_,by exact Nat.le.step h1'⟩
     rw [List.drop_of_length_le (by exact Nat.le_of_not_lt z),List.append_nil] at h2
     exact h2
   refine ea24 fin fun ρ4 acc4 e4 r4 f4 l4=> ?_
   have hsum:(acc4.map List.length).sum=(outT ts++tl).length:=by exact lwr f4 (rwl List.length_flatten rfl)
   have hout:(outT ts++tl).length<=w.length:=by
    refine lwr hwe (rwl List.length_append (rwl List.length_append ?_))
    have:=out_le ts
    exact Nat.add_le_add_right this _
   refine ⟨ρ4,s_cons (x_ite c0 rfl (fun z=>by simp [q] at z) fun Z=>s_nil) (s_cons (x_asg (v_c (.int ((0:Nat):Int)))) (s_cons (x_asg (v_c .none)) (s_cons (x_asgO (v_list vl_nil)) (s_cons (ρ₁:=ρ3) ?_ (s_cons e4 (s_ret (x_ret (v_joinO r4 ?_))))))))⟩
   ·refine rwl hρ1 ?_
    exact x_forG (v_var j.ad) hg e3
   ·refine (bb_join _ _).trans ((join_B (ls:=acc4) ?_).trans (by exact rwl f4 rfl))
    refine rwl hsum ?_;exact H430 hout l4 hw
  refine ea11 t1 fun ρ' t1=> ?_
  refine rwl t1 ?_;rfl
 ·have ho:outT ts++tl=w:=by
   rw [<- hwe,out_all ts fun z=>q (by refine lwr hwe ?_;exact List.mem_append_left _ z)]
  have t1:exs (Phi n) (BB none) GG pStrip [(nm "addr", .d (.str (mkS w)))]=some ([(nm "addr", .d (.str (mkS w)))],some (.str (mkS w))):=
   s_ret (x_ite c0 rfl (fun Z=>s_ret (x_ret (v_var a0))) fun z=>by simp [q] at z)
  refine rwl t1 (rwl ho ?_);rfl
noncomputable def outS (ts:List Tk):List Sk:=ts.flatMap fun t=>match t with | .s k=>[k] | .q _=>[]
theorem out_sk : ∀ (ts:List Tk),outT ts=skT (outS ts)
 | []=>rfl
 | .s k::ts=>by
  have ih:=out_sk ts
  unfold outT outS skT at *
  refine rwl List.flatMap_cons ?_;rw [List.flatMap_cons];refine rwl ih ?_
  simp [Tk.out]
 | .q ks::ts=>by
  have ih:=out_sk ts
  unfold outT outS skT at *
  refine rwl List.flatMap_cons (rwl List.flatMap_cons (rwl ih ?_))
  simp [Tk.out]
theorem outS_ok : ∀ (ts:List Tk),ts.all Tk.ok=true->(outS ts).all Sk.ok=true
 | [],_=>rfl
 | .s k::ts,h=>by
  rw [List.all_cons,Bool.and_eq_true] at h
  unfold outS
  refine rwl List.flatMap_cons ?_
  show (k::outS ts).all Sk.ok=true
  refine rwl List.all_cons (rwl (outS_ok ts h.2) (rwl (Bool.and_true _) ?_));exact h.1
 | .q ks::ts,h=>by
  rw [List.all_cons,Bool.and_eq_true] at h
  exact outS_ok ts h.2
noncomputable def chkR:Int->List Sk->Option Int
 | o,[]=>some o
 | o,.one c::r=>if c=40 then chkR (o+1) r else if c=41 then (if o-1<0 then none else chkR (o-1) r) else chkR o r
 | o,.two _::r=>chkR o r
noncomputable def chkP (ks:List Sk):Bool:=match chkR 0 ks with|some o=>o==0|none=>false
noncomputable def mChkBody:MSs:=mss [
  .ite (eq' (vr "ch") (cs "(")) (mss [.aug (nm "opens") .Add (ci 1)]) (mss [
   .ite (eq' (vr "ch") (cs ")")) (mss [.aug (nm "opens") .Sub (ci 1),.ite (.cmp .Lt (vr "opens") (ci 0)) (mss [.ret (.c (.bool false))]) .nil]) .nil])]
section
variable {Φ B:Fns} {Γ:Gens} {ρ:Loc}
theorem x_augA {n:String} {e:ME} {a b:Int} (h:lk ρ (nm n) = .d (.int a)) (he:ev Φ B e ρ=some (.int b)):ex Φ B Γ (.aug (nm n) .Add e) ρ=some (upd ρ (nm n) (.d (.int (a+b))),none):=numI h (intI he rfl)
theorem x_augS {n:String} {e:ME} {a b:Int} (h:lk ρ (nm n) = .d (.int a)) (he:ev Φ B e ρ=some (.int b)):ex Φ B Γ (.aug (nm n) .Sub e) ρ=some (upd ρ (nm n) (.d (.int (a-b))),none):=numI h (intI he rfl)
theorem ch_is {u:List Nat} {x:String} {c:Nat} (h:lk ρ (nm "ch") = .d (.str (mkS u))) (hx:nm x=mkS [c]):ev Φ B (eq' (vr "ch") (cs x)) ρ=some (.bool (u==[c])):=
 v_cmp (v_var h) (v_c _) (by exact rwl (cmp_eqS _ _) (rwl hx (rwl (mkS_beq _ _) rfl)))
theorem chk_loop : ∀ (ks:List Sk) (i:Nat) (o:Int) (ρ:Loc),ks.all Sk.ok=true->lk ρ (nm "opens") = .d (.int o) ->
  ∃ ρ',runFor tgPC (exs Φ B Γ mChkBody) (escGo false i (skT ks)) ρ=some (ρ',if (chkR o ks).isNone then some (.bool false) else none) /\ ∀ o',chkR o ks=some o'->lk ρ' (nm "opens") = .d (.int o')
 | [],i,o,ρ,_,j=>⟨ρ,by rfl,fun o' e=>by obtain rfl:=Option.some.inj e;exact j⟩
 | k::ks,i,o,ρ,h,j=>by
  rw [List.all_cons,Bool.and_eq_true] at h
  have e:skT (k::ks)=k.cs++skT ks:=by unfold skT;exact rwl List.flatMap_cons rfl
  refine rwl e (rwl (esc_sk h.1) ?_)
  generalize hρ1:upd (upd ρ (nm "pos") (.d (.int (i+k.cs.length-1:Nat)))) (nm "ch") (.d (.str (mkS k.cs)))=ρ1
  have k1:lk ρ1 (nm "ch") = .d (.str (mkS k.cs)):=lkS hρ1
  have k2:lk ρ1 (nm "opens") = .d (.int o):=by refine lwr hρ1 ?_;exact (lk_ne rfl).trans ((lk_ne rfl).trans j)
  have q40:nm "(" = mkS [40]:=rfl
  have q41:nm ")" = mkS [41]:=rfl
  have hb:bindT tgPC (item (i+k.cs.length-1) k.cs) ρ=some ρ1:=by refine lwr hρ1 ?_;rfl
  rcases k with c|c
  ·have hcs:(Sk.one c).cs=[c]:=rfl
   by_cases c1:c=40
   ·have s1:exs Φ B Γ mChkBody ρ1=some (upd ρ1 (nm "opens") (.d (.int (o+1))),none):=s_last (x_ite (t:=true) ((ch_is k1 q40).trans (by exact rwl hcs (rwl c1 rfl))) rfl (fun Z=>s_last (x_augA k2 (v_c _))) (fun q=>by exact nomatch q))
    refine rwl (runFor_cons hb s1) ?_
    have:chkR o (.one c::ks)=chkR (o+1) ks:=by rw [chkR];exact rwl (if_pos c1) rfl
    refine rwl this ?_
    exact chk_loop ks _ _ _ h.2 lk_self
   ·have n1:([c]==[40])=false:=by simpa using c1
    by_cases c2:c=41
    ·have a1:lk (upd ρ1 (nm "opens") (.d (.int (o-1)))) (nm "opens") = .d (.int (o-1)):=lk_self
     have cmpv : ∀ t,decide (o-1<0)=t->ev Φ B (.cmp .Lt (vr "opens") (ci 0)) (upd ρ1 (nm "opens") (.d (.int (o-1))))=some (.bool t):=fun t ht=>v_cmp (v_var a1) (v_c _) (by refine lwr ht ?_;rfl)
     by_cases z:o-1<0
     ·have s1:exs Φ B Γ mChkBody ρ1=some (upd ρ1 (nm "opens") (.d (.int (o-1))),some (.bool false)):=s_last (x_ite (t:=false) ((ch_is k1 q40).trans (by exact rwl hcs (rwl n1 rfl))) rfl (fun q=>by exact nomatch q) fun Z=>s_last (x_ite (t:=true) ((ch_is k1 q41).trans (by exact rwl hcs (rwl c2 rfl))) rfl (fun Z=>s_cons (x_augS k2 (v_c _)) (s_last (x_ite (t:=true) (cmpv true (by simpa using z)) rfl (fun Z=>s_ret (x_ret (v_c _))) fun q=>by exact nomatch q))) fun q=>by exact nomatch q))
      have:chkR o (.one c::ks)=none:=by rw [chkR];exact rwl (if_neg c1) (rwl (if_pos c2) (rwl (if_pos z) rfl))
      refine rwl this ?_
      refine ⟨upd ρ1 (nm "opens") (.d (.int (o-1))),?_,(fun o' q=>by exact nnE q)⟩
      exact bindI hb (bindI s1 rfl)
     ·have s1:exs Φ B Γ mChkBody ρ1=some (upd ρ1 (nm "opens") (.d (.int (o-1))),none):=s_last (x_ite (t:=false) ((ch_is k1 q40).trans (by exact rwl hcs (rwl n1 rfl))) rfl (fun q=>by exact nomatch q) fun Z=>s_last (x_ite (t:=true) ((ch_is k1 q41).trans (by exact rwl hcs (rwl c2 rfl))) rfl (fun Z=>s_cons (x_augS k2 (v_c _)) (s_last (x_ite (t:=false) (cmpv false (by simpa using z)) rfl (fun q=>by exact nomatch q) fun Z=>s_nil))) fun q=>by exact nomatch q))
      refine rwl (runFor_cons hb s1) ?_
      have:chkR o (.one c::ks)=chkR (o-1) ks:=by rw [chkR];exact rwl (if_neg c1) (rwl (if_pos c2) (rwl (if_neg z) rfl))
      refine rwl this ?_
      exact chk_loop ks _ _ _ h.2 lk_self
    ·have n2:([c]==[41])=false:=by simpa using c2
     have s1:exs Φ B Γ mChkBody ρ1=some (ρ1,none):=s_last (x_ite (t:=false) ((ch_is k1 q40).trans (by exact rwl hcs (rwl n1 rfl))) rfl (fun q=>by exact nomatch q) fun Z=>s_last (x_ite (t:=false) ((ch_is k1 q41).trans (by exact rwl hcs (rwl n2 rfl))) rfl (fun q=>by exact nomatch q) fun Z=>s_nil))
     refine rwl (runFor_cons hb s1) ?_
     have:chkR o (.one c::ks)=chkR o ks:=by rw [chkR];exact rwl (if_neg c1) (rwl (if_neg c2) rfl)
     refine rwl this ?_
     exact chk_loop ks _ _ _ h.2 k2
  ·have hcs:(Sk.two c).cs=[92,c]:=rfl
   have s1:exs Φ B Γ mChkBody ρ1=some (ρ1,none):=s_last (x_ite (t:=false) ((ch_is k1 q40).trans (by exact rwl hcs rfl)) rfl (fun q=>by exact nomatch q) fun Z=>s_last (x_ite (t:=false) ((ch_is k1 q41).trans (by exact rwl hcs rfl)) rfl (fun q=>by exact nomatch q) fun Z=>s_nil))
   refine rwl (runFor_cons hb s1) ?_
   have:chkR o (.two c::ks)=chkR o ks:=by rw [chkR]
   refine rwl this ?_
   exact chk_loop ks _ _ _ h.2 k2
end
theorem phi_check {n:Nat} {ts:List Tk} (hok:ts.all Tk.ok=true) (hw:(txt ts).length<=500):Phi (n+2) (nm "_check_parenthesis") [.str (mkS (txt ts))]=some (.bool (chkP (outS ts))):=by
 have e:Phi (n+2) (nm "_check_parenthesis") [.str (mkS (txt ts))]=(exs (Phi (n+1)) (BB none) GG pCheck [(nm "addr", .d (.str (mkS (txt ts))))]).bind (·.2):=by rfl
 refine rwl e ?_
 have st:=phi_strip (n:=n) (tl:=[]) hok (.inl rfl) (by refine rwl (List.append_nil _) ?_;exact hw)
 rw [List.append_nil,List.append_nil,out_sk] at st
 generalize hρ:upd (upd [(nm "addr", Bd.d (.str (mkS (txt ts))))] (nm "addr") (.d (.str (mkS (skT (outS ts)))))) (nm "opens") (.d (.int 0))=ρ
 have k1:lk ρ (nm "addr") = .d (.str (mkS (skT (outS ts)))):=by refine lwr hρ ?_;exact (lk_ne rfl).trans lk_self
 have k2:lk ρ (nm "opens") = .d (.int 0):=lkS hρ
 refine ea12 (chk_loop (Φ:=Phi (n+1)) (B:=BB none) (Γ:=GG) (outS ts) 0 0 ρ (outS_ok ts hok) k2) fun ρ' e1 e2=> ?_
 have hg:GG (nm "_iter_escaped_chars") (.str (mkS (skT (outS ts))))=some (escGo false 0 (skT (outS ts))):=by
  unfold GG
  refine rwl (if_pos (beq_self_eq_true _)) ?_;rfl
 have t1:exs (Phi (n+1)) (BB none) GG pCheck [(nm "addr", .d (.str (mkS (txt ts))))]=some (ρ',some (.bool (chkP (outS ts)))):=by
  refine s_cons (x_asg (v_call (vl_mes1 (v_var (by rfl))) st)) (s_cons (x_asg (v_c (.int 0))) ?_)
  refine rwl hρ ?_
  refine s_more (x_forG (v_var k1) hg e1) (fun q=> ?_) fun d q=> ?_
  ·rcases hr:chkR 0 (outS ts) with _|o'
   ·rw [hr] at q;simp at q
   ·have hv:=e2 o' hr
    refine s_ret (x_ret (v_cmp (t:=o'==0) (v_var hv) (v_c _) ?_)) |>.trans ?_
    ·simp [cEq,cNe,cLt,cLe,cGt,cGe,cIn,cNi,PyData.depth,PyData.eqv]
    ·unfold chkP;exact rwl hr rfl
  ·rcases hr:chkR 0 (outS ts) with _|o'
   ·rw [hr] at q
    simp at q
    subst q
    unfold chkP;exact rwl hr rfl
   ·rw [hr] at q;simp at q
 refine rwl t1 ?_;rfl
end Mine
namespace Mine
open PySem
noncomputable def hideTk:List (List Tk):=[[.s (.two 41)],[.q [.one 40]],[.s (.two 40)],[.q [.two 34,.one 41]],[.s (.two 34)],[.s (.two 92)]]
noncomputable def dressT (s k:Nat):List Tk:=if (s+k)%4=0 then hideTk.getD ((s+k)%24/4) [] else []
noncomputable def endsP (m:Lk):List Nat:=m.map (·.2)
noncomputable def bitP (m:Lk) (k:Nat):Bool:=(endsP m).contains k
noncomputable def pieceT (m:Lk) (s k:Nat):List Tk:= .s (.one (if bitP m k then 41 else 40))::dressT s k
noncomputable def textT (m:Lk) (s:Nat) (ks:List Nat):List Tk:=ks.flatMap (pieceT m s)
noncomputable def balR:Int->List Bool->Option Int
 | o,[]=>some o
 | o,b::r=>if b then (if o-1<0 then none else balR (o-1) r) else balR (o+1) r
noncomputable def balP (bs:List Bool):Bool:=match balR 0 bs with|some o=>o==0|none=>false
theorem chkR_app : ∀ (a b:List Sk) (o:Int),chkR o (a++b)=(chkR o a).bind fun o'=>chkR o' b
 | [],b,o=>rfl
 | .one c::a,b,o=>by
  refine rwl List.cons_append ?_;rw [chkR,chkR]
  split
  ·exact chkR_app a b _
  ·split
   ·split
    ·rfl
    ·exact chkR_app a b _
   ·exact chkR_app a b _
 | .two c::a,b,o=>by
  refine rwl List.cons_append ?_;rw [chkR,chkR]
  exact chkR_app a b _
theorem dress_cases (s k:Nat):dressT s k=[]\/dressT s k∈hideTk:=by
 unfold dressT
 split
 ·right
  have:(s+k)%24/4<6:=by exact Nat.div_lt_of_lt_mul (ml rfl rfl)
  refine rwl List.getD_eq_getElem?_getD (rwl (List.getElem?_eq_getElem (by exact this)) ?_)
  exact List.getElem_mem _
 ·exact .inl rfl
theorem dress_chk (s k:Nat) (o:Int):chkR o (outS (dressT s k))=some o:=by
 rcases dress_cases s k with h|h
 ·refine rwl h ?_;rfl
 ·simp only [hideTk,List.mem_cons,List.not_mem_nil,or_false] at h
  rcases h with h|h|h|h|h|h<;>refine rwl h ?_<;>rfl
theorem dress_ok (s k:Nat):(dressT s k).all Tk.ok=true/\(txt (dressT s k)).length<=5:=by
 rcases dress_cases s k with h|h
 ·refine rwl h ?_;exact ⟨rfl,by decide⟩
 ·have : ∀ t∈hideTk,t.all Tk.ok=true/\(txt t).length<=5:=by
   intro t ht
   simp only [hideTk,List.mem_cons,List.not_mem_nil,or_false] at ht
   rcases ht with h|h|h|h|h|h<;>refine rwl h ?_<;>exact ⟨rfl,by decide⟩
  exact this _ h
theorem outS_app (a b:List Tk):outS (a++b)=outS a++outS b:=by unfold outS;exact rwl List.flatMap_append rfl
theorem txt_app (a b:List Tk):txt (a++b)=txt a++txt b:=by unfold txt;exact rwl List.flatMap_append rfl
theorem piece_chk (m:Lk) (s k:Nat) (o:Int):chkR o (outS (pieceT m s k))=balR o [bitP m k]:=by
 have e:outS (pieceT m s k)=[.one (if bitP m k then 41 else 40)]++outS (dressT s k):=by unfold pieceT outS;exact rwl List.flatMap_cons rfl
 refine rwl e (rwl (chkR_app _ _ _) ?_)
 rcases hb:bitP m k with _|_
 ·simp [chkR,balR,dress_chk]
 ·simp only [chkR,balR,if_true]
  by_cases z:o-1<0
  ·simp [z]
  ·simp [z,dress_chk]
theorem balR_app : ∀ (a b:List Bool) (o:Int),balR o (a++b)=(balR o a).bind fun o'=>balR o' b
 | [],b,o=>rfl
 | x::a,b,o=>by
  refine rwl List.cons_append ?_;rw [balR,balR]
  split
  ·split
   ·rfl
   ·exact balR_app a b _
  ·exact balR_app a b _
theorem text_chk (m:Lk) (s:Nat) : ∀ (ks:List Nat) (o:Int),chkR o (outS (textT m s ks))=balR o (ks.map (bitP m))
 | [],o=>rfl
 | k::ks,o=>by
  have e:textT m s (k::ks)=pieceT m s k++textT m s ks:=by unfold textT;exact rwl List.flatMap_cons rfl
  refine rwl e (rwl (outS_app _ _) (rwl (chkR_app _ _ _) (rwl (piece_chk _ _ _ _) (rwl List.map_cons ?_))))
  have e2:bitP m k::ks.map (bitP m)=[bitP m k]++ks.map (bitP m):=rfl
  refine rwl e2 (rwl (balR_app _ _ _) ?_)
  congr 1
  funext o'
  exact text_chk m s ks o'
theorem text_bal (m:Lk) (s:Nat) (ks:List Nat):chkP (outS (textT m s ks))=balP (ks.map (bitP m)):=by
 unfold chkP balP
 refine rwl (text_chk _ _ _ _) ?_
 first|done|(rcases balR 0 (ks.map (bitP m)) with _|_<;>rfl)
theorem text_ok (m:Lk) (s:Nat) : ∀ (ks:List Nat),(textT m s ks).all Tk.ok=true/\(txt (textT m s ks)).length<=6*ks.length
 | []=>⟨rfl,Nat.le_refl _⟩
 | k::ks=>by
  have e:textT m s (k::ks)=pieceT m s k++textT m s ks:=by unfold textT;exact rwl List.flatMap_cons rfl
  refine ea02 (text_ok m s ks) fun h1 h2=> ?_
  refine ea02 (dress_ok s k) fun d1 d2=> ?_
  refine rwl e (rwl (txt_app _ _) (rwl List.all_append (rwl h1 (rwl (Bool.and_true _) (rwl List.length_append ?_)))))
  unfold pieceT
  constructor
  ·refine rwl List.all_cons (rwl d1 (rwl (Bool.and_true _) ?_))
   show (!_ && !_)=true
   rcases bitP m k with _|_<;>rfl
  ·have:(txt (.s (.one (if bitP m k=true then 41 else 40))::dressT s k)).length=1+(txt (dressT s k)).length:=by
    unfold txt;refine rwl List.flatMap_cons (rwl List.length_append ?_);rfl
   refine rwl this (rwl List.length_cons ?_);exact H173 d2 h2
theorem phi_text {n:Nat} (m:Lk) (s:Nat) (ks:List Nat) (h:ks.length<=16):Phi (n+2) (nm "_check_parenthesis") [.str (mkS (txt (textT m s ks)))]=some (.bool (balP (ks.map (bitP m)))):=by
 refine ea02 (text_ok m s ks) fun h1 h2=> ?_
 exact rwl (phi_check h1 (by exact t2 (Nat.le_trans h2 (Nat.mul_le_mul_left _ h)) rfl)) (rwl (text_bal _ _ _) rfl)
noncomputable def toldP (m:Lk):List Bool:=m.map fun l=>balP (((List.range 8).take (l.2+1)).drop l.1 |>.map (bitP m))
noncomputable def overP (m:Lk) (k:Nat):Bool:=(m.filter fun l=>decide (l.1<k)&&decide (k<=l.2)).isEmpty
noncomputable def perPair (m:Lk):Bool:=m.all (fun l=>decide (l.1<8)&&decide (l.2<8))&&decide (m.length=4)&&(((toldP m).all id)==(cornersP m==5)) &&
 (List.range 8).all fun k=>(balP (((List.range 8).take k).map (bitP m))==overP m k)&&(balP (((List.range 8).drop k++(List.range 8).take k).map (bitP m))==overP m k)
theorem pairs_all:pairings.all perPair=true:=rfl
end Mine
namespace Mine
open PySem
theorem max_up (ns:List Nat) : ∀ k,k<ns.length->maxUpTo (valOf (ns.map fun (n:Nat)=>(n:Int))) k=((maxL (ns.take (k+1)):Nat):Int)
 | 0,h=>by
  match ns,h with
  | a::r,_=>simp [maxUpTo,valOf,maxL]
 | k+1,h=>by
  have ih:=max_up ns k (by exact Nat.lt_of_succ_lt h)
  have e:ns.take (k+1+1)=ns.take (k+1)++[ns[k+1]]:=by refine rwl List.take_add_one (rwl (List.getElem?_eq_getElem h) ?_);rfl
  have v:valOf (ns.map fun (n:Nat)=>(n:Int)) (k+1)=(ns[k+1]:Nat):=by
   unfold valOf
   refine rwl List.getD_eq_getElem?_getD (rwl List.getElem?_map (rwl (List.getElem?_eq_getElem h) ?_));rfl
  unfold maxUpTo
  refine rwl ih (rwl v (rwl e ?_))
  unfold maxL
  refine rwl List.foldl_append ?_
  simp only [List.foldl_cons,List.foldl_nil]
  split<;>(first|exact H431 (by assumption)|exact H432 (by assumption))
theorem ints_nats : ∀ (ns:List Nat),intsOf (ns.map fun (n:Nat)=>PyData.int n)=some (ns.map fun (n:Nat)=>(n:Int))
 | []=>rfl
 | n::r=>by
  refine rwl List.map_cons ?_
  unfold intsOf
  refine rwl (ints_nats r) ?_;rfl
theorem max_B (ns:List Nat) (h:0<ns.length):maxB (natsD ns)=some (.int (maxL ns)):=by
 unfold maxB
 dsimp only
 rw [ints_nats,Option.bind_some,if_pos (by refine rwl (List.length_map _) ?_;exact h),List.length_map,max_up ns _ (by exact Nat.sub_one_lt_of_lt h)]
 exact rwl (show ns.length-1+1=ns.length by exact Nat.sub_add_cancel h) (rwl List.take_length rfl)
section
variable {Φ B:Fns} {Γ:Gens} {ρ:Loc}
theorem x_tup2 {n m:Str} {e1 e2:ME} {d:D} {ds:List D} (h1:ev Φ B e1 ρ=some d) (h2:ev Φ B e2 ρ=some (.list ds)):ex Φ B Γ (.tup [(n,false,e1),(m,true,e2)]) ρ=some (upd (upd ρ n (.d d)) m (.o ds),none):=mapI (a:=[(n,Bd.d d),(m,Bd.o ds)]) (bindI h1 (bindI (a:=Bd.d d) rfl (mapI (a:=[(m,Bd.o ds)]) (bindI h2 (bindI (a:=Bd.o ds) rfl (mapI (a:=[]) rfl))))))
theorem x_tupD {n m:Str} {e1 e2:ME} {d1 d2:D} (h1:ev Φ B e1 ρ=some d1) (h2:ev Φ B e2 ρ=some d2):ex Φ B Γ (.tup [(n,false,e1),(m,false,e2)]) ρ=some (upd (upd ρ n (.d d1)) m (.d d2),none):=mapI (a:=[(n,Bd.d d1),(m,Bd.d d2)]) (bindI h1 (bindI (a:=Bd.d d1) rfl (mapI (a:=[(m,Bd.d d2)]) (bindI h2 (bindI (a:=Bd.d d2) rfl (mapI (a:=[]) rfl))))))
theorem v_chn {o1 o2:CmpOp} {a b c:ME} {x y z:D} {t u:Bool} (ha:ev Φ B a ρ=some x) (hb:ev Φ B b ρ=some y) (hc:ev Φ B c ρ=some z) (h1:cmpD o1 x y=some t) (h2:cmpD o2 y z=some u):ev Φ B (.chn o1 o2 a b c) ρ=some (.bool (t&&u)):=bindI ha (bindI hb (bindI h1 (by rcases t with _|_
                                                                                                                                                                                                                                                                   ·rfl
                                                                                                                                                                                                                                                                   ·exact bindI hc (mapI h2))))
end
theorem eqvAll_refl : ∀ (l:List D),(∀ d∈l,PyData.eqv d d=true)->PyData.eqvAll l l=true
 | [],_=>by simp [PyData.eqvAll]
 | d::l,h=>by
  simp only [PyData.eqvAll,h d List.mem_cons_self,eqvAll_refl l fun x hx=>h x (List.mem_cons_of_mem _ hx),Bool.and_self]
theorem ne_self {d:D} (h:PyData.eqv d d=true) (hd:d.depth<=64):cmpD .NotEq d d=some false:=by
 simp only [cEq,cNe,cLt,cLe,cGt,cGe,cIn,cNi]
 refine rwl (if_pos hd) (rwl h ?_);rfl
structure KB (cs:List Nat) (u:Value) (S:List D) (ρ:Loc):Prop where
 row:lk ρ (nm "row") = .d (rowS cs)
 tab:lk ρ (nm "table") = .v u
 sums:lk ρ (nm "sums") = .d (.list S)
theorem KB.upd {cs:List Nat} {u:Value} {S:List D} {ρ:Loc} (k:KB cs u S ρ) {x:Str} {b:Bd} (h1:(x==nm "row")=false) (h2:(x==nm "table")=false) (h3:(x==nm "sums")=false):KB cs u S (Mine.upd ρ x b):=
 ⟨(lk_ne h1).trans k.row,(lk_ne h2).trans k.tab,(lk_ne h3).trans k.sums⟩
theorem lk_noO_d {ρ:Loc} {y:Str} {d:D} (h:lk ρ y = .d d):lk (noOwn ρ) y = .d d:=by refine rwl (lk_noOwn _ _) (rwl h ?_);rfl
theorem lk_noO_v {ρ:Loc} {y:Str} {u:Value} (h:lk ρ y = .v u):lk (noOwn ρ) y = .v u:=by refine rwl (lk_noOwn _ _) (rwl h ?_);rfl
theorem KB.setO {cs:List Nat} {u:Value} {S:List D} {ρ:Loc} (k:KB cs u S ρ) {x:Str} {ds:List D} (h1:(x==nm "row")=false) (h2:(x==nm "table")=false) (h3:(x==nm "sums")=false):KB cs u S (setO ρ x ds):=
 ⟨(lk_ne h1).trans (lk_noO_d k.row),(lk_ne h2).trans (lk_noO_v k.tab),(lk_ne h3).trans (lk_noO_d k.sums)⟩
section
variable {n:Nat} {cs:List Nat} {u:Value} {S:List D} {ρ:Loc}
theorem segB1 (hl:cs.length=8) (h8:lt8s cs) (kb:KB cs u S ρ) : ∃ ρ',KB cs u S ρ'/\lk ρ' (nm "linkings") = .d (lssD (linkingsP (matesP cs)))/\lk ρ' (nm "corners") = .o (([0]:List Nat).map fun (n:Nat)=>PyData.int n) /\
  ∀ (r:MSs) (res:Loc×Option D),exs (Phi (n+2)) (BB (some (tbOf cs))) GG r ρ'=some res->exs (Phi (n+2)) (BB (some (tbOf cs))) GG (.cons (.asg (nm "mates") mMates) (.cons (.tup [(nm "linkings", false,li [li []]),(nm "corners", true,li [ci 0])]) (.cons (.fr (.n (nm "k")) .rng (ci 4) (mss [.asg (nm "linkings") mRound])) r))) ρ=some res:=by
 generalize hρ1:upd ρ (nm "mates") (.d (matesD (matesP cs)))=ρ1
 have kb1:KB cs u S ρ1:=by refine lwr hρ1 ?_;exact kb.upd (by decide +kernel) (by decide +kernel) (by decide +kernel)
 generalize hρ2:upd (upd ρ1 (nm "linkings") (.d (lssD [[]]))) (nm "corners") (.o [.int 0])=ρ2
 have kb2:KB cs u S ρ2:=by refine lwr hρ2 ?_;exact (kb1.upd (by decide +kernel) (by decide +kernel) (by decide +kernel)).upd (by decide +kernel) (by decide +kernel) (by decide +kernel)
 have m2:lk ρ2 (nm "mates") = .d (matesD (matesP cs)):=lkU hρ2 (by decide +kernel) ((lk_ne (by decide +kernel)).trans (lkS hρ1))
 obtain ⟨ρ3,e3,k3,l3,m3,c3,_⟩:=runFor_T (tg:= .n (nm "k")) (f:=fun (i:Nat)=>PyData.int i) (F:=exs (Phi (n+2)) (BB (some (tbOf cs))) GG (mss [.asg (nm "linkings") mRound])) (fun l Z=>roundP (matesP cs) l)
  (fun l rest ρ=>KB cs u S ρ/\lk ρ (nm "linkings") = .d (lssD l)/\lk ρ (nm "mates") = .d (matesD (matesP cs))/\lk ρ (nm "corners") = .o [.int 0]/\rest.length<=4/\(∀ m∈l,m.length=4-rest.length)/\l.Sublist (rnd (4-rest.length)))
  (fun l i rest ρ ⟨a1,a2,a3,a4,a5,a6,a7⟩=>by
   simp only [List.length_cons] at a5 a6 a7
   have hlen:l.length<=105:=Nat.le_trans a7.length_le (rnd_len _ (by exact Nat.sub_lt (Nat.le_of_ble_eq_true rfl) (Nat.le_add_left (Nat.succ 0) _)))
   refine ⟨_,_,rfl,s_last (x_asg (round_ev hl ((lk_ne (by decide +kernel)).trans a3) ((lk_ne (by decide +kernel)).trans a2) (by exact Nat.le_trans hlen (Nat.le_of_ble_eq_true rfl)) fun m hm=>by have:=a6 m hm;exact H433 this)),(a1.upd (by decide +kernel) (by decide +kernel) (by decide +kernel)).upd (by decide +kernel) (by decide +kernel) (by decide +kernel),lk_self,(lk_ne (by decide +kernel)).trans ((lk_ne (by decide +kernel)).trans a3),(lk_ne (by decide +kernel)).trans ((lk_ne (by decide +kernel)).trans a4),by exact Nat.le_of_succ_le a5,?_,?_⟩
   ·have:=round_len (ms:=matesP cs) a6
    intro m hm
    have:=this m hm
    exact H435 this a5
   ·have e:4-rest.length=(4-(rest.length+1))+1:=by exact H434 a5
    refine rwl e ?_
    exact round_sub (sub_mates hl) a7) (List.range 4) [[]] ρ2 ⟨kb2,lkU hρ2 (by decide +kernel) lk_self,m2,lkS hρ2,by decide,by intro m hm;simp at hm;subst hm;rfl,by exact List.Sublist.refl _⟩
 refine ⟨ρ3,k3,l3,c3,fun r res h=>s_cons (x_asg (mates_ev hl h8 kb.row kb.tab)) ?_⟩
 refine rwl hρ1 ?_
 refine s_cons (x_tup2 (d:=lssD [[]]) (ds:=[.int 0]) (v_list (vl_mes1 (v_list vl_nil))) (v_list (vl_mes1 (v_c _)))) ?_
 refine rwl hρ2 ?_
 refine s_cons (x_forR (n:=4) (v_c _) (by decide) ?_) h
 refine rwl (rngD_eq _) ?_;exact e3
end
end Mine
namespace Mine
open PySem
section
variable {Φ B:Fns} {Γ:Gens} {ρ:Loc} {n:Nat} {cs:List Nat} {u:Value} {S:List D}
theorem in_lss (m:Lk) (l:List Lk) (h:m∉l):inD (linksD m) (lssD l)=some false:=by
 have hd:=depth_links m
 show (if (linksD m).depth<=64 then some ((l.map linksD).any fun y=>PyData.eqv y (linksD m)) else none)=_
 refine rwl (if_pos (by exact Nat.le_trans hd (Nat.le_of_ble_eq_true rfl))) (rwl List.any_map ?_)
 congr 1
 rw [List.any_eq_false]
 intro a ha
 simp only [Function.comp,eqv_links]
 intro z
 rw [beq_iff_eq] at z
 exact h (z▸ha)
noncomputable def mAgain:ME:=cmpn (vr "k") "k" (len' (vr "linkings")) [.cmp .In (.idx (vr "linkings") (vr "k")) (.sl (vr "linkings") nn (vr "k") nn)]
theorem again_ev {t:Option Tab} {l:List Lk} (hk:lk ρ (nm "linkings") = .d (lssD l)) (hp:pairwiseB ltOk l=true) (hl:l.length<=200):ev Φ (BB t) mAgain ρ=some (.list []):=by
 have hz:szL=100000:=rfl
 refine (ev_filterR (n:=l.length) (fun Z=>false) (fun Z=> .none) (v_len hk (by exact Nat.le_trans hl (Nat.le_of_ble_eq_true rfl))) (by exact Nat.le_trans hl (Nat.le_of_ble_eq_true rfl)) (fun i hi=> ?_) fun i hi q=>by exact nomatch q).trans ?_
 ·have k1:lk (upd (hide [nm "k"] ρ) (nm "k") (.d (.int i))) (nm "linkings") = .d (lssD l):=(lk_ne rfl).trans (hide_d hk rfl)
  have hm:l[i]? = some l[i]:=List.getElem?_eq_getElem hi
  refine va_one (v_cmp (t:=false) (v_idx (v_var k1) (v_var lk_self) (z:=linksD l[i]) ?_) (v_sl (z:=lssD (l.take i)) (v_var k1) (v_c _) (v_var lk_self) (v_c _) ?_) ?_) rfl
  ·rw [idx_nat (by refine rwl (List.length_map _) ?_;exact hi) (by refine rwl (List.length_map _) ?_;exact t2 hl rfl),List.getElem?_map,hm];rfl
  ·rw [sl_list (l:=none) (h:=some (i:Int)) rfl rfl (by refine rwl (List.length_map _) ?_;exact t2 hl rfl),clp_none,clp_nat,List.drop_zero,List.length_map,Nat.min_eq_left (by exact Nat.le_of_succ_le hi)]
   show _=some (PyData.list (List.map linksD _))
   exact rwl List.map_take rfl
  ·exact in_lss _ _ (pair_not hp i _ hm)
 ·have:(List.range l.length).filter (fun Z=>false)=[]:=by simp
  refine rwl this ?_;rfl
noncomputable def mItems:ME:=cmpn (tu [.idx (vr "row") (vr "k"),str' (vr "k")]) "k" (ci 8) []
theorem tab_items (cs:List Nat):tabItems (tbOf cs) = .list ((List.range 8).map fun k=> .tuple [LD (cs.getD k 0),.str (digS k)]):=by
 unfold tabItems tbOf
 rw [List.map_map];rfl
theorem items_ev {t:Option Tab} (hl:cs.length=8) (hr:lk ρ (nm "row") = .d (rowS cs)):ev Φ (BB t) mItems ρ=some (tabItems (tbOf cs)):=by
 refine rwl (tab_items _) ?_
 refine ev_mapR (n:=8) (fun k=> .tuple [LD (cs.getD k 0),.str (digS k)]) (v_c _) (by decide) fun i hi=> ?_
 have k1:lk (upd (hide [nm "k"] ρ) (nm "k") (.d (.int i))) (nm "row") = .d (rowS cs):=(lk_ne rfl).trans (hide_d hr rfl)
 exact v_tup (vl_mes2 (v_idx (v_var k1) (v_var lk_self) (row_idx hl hi)) (v_blt (v_var lk_self) ((bb_str _).trans (dig_str hi))))
theorem items_self (cs:List Nat):cmpD .NotEq (tabItems (tbOf cs)) (tabItems (tbOf cs))=some false:=by
 refine rwl (tab_items _) ?_
 refine ne_self ?_ ?_
 ·show PyData.eqvAll _ _=true
  refine eqvAll_refl _ fun d hd=> ?_
  refine ea12 (List.mem_map.mp hd) fun k Z Z2=> ?_;subst Z2
  show PyData.eqvAll [_,_] [_,_]=true
  simp [PyData.eqvAll,PyData.eqv]
 ·show PyData.depthAll _+1<=64
  have:=depthAll_map (f:=fun k=>PyData.tuple [LD (cs.getD k 0),.str (digS k)]) (k:=1) (as:=List.range 8) fun k Z=>by
   show PyData.depthAll [_,_]+1<=1
   simp [PyData.depthAll,PyData.depth]
  exact Nat.lt_of_le_of_lt this (Nat.one_lt_succ_succ 62)
theorem lss_self (l:List Lk):cmpD .NotEq (lssD l) (lssD l)=some false:=by
 exact ne_self (by refine rwl (eqv_lss _ _) ?_;exact beq_self_eq_true _) (Nat.le_trans (depth_lss l) (by decide))
theorem sorted_ev {l:List Lk} (hp:pairwiseB ltOk l=true) (h1:1<=l.length) (h2:l.length<64):sortedB (lssD l)=some (lssD l):=by
 unfold sortedB
 dsimp only
 have ha:(l.map linksD).all isL=true:=by
  rw [List.all_eq_true]
  intro d hd
  refine ea12 (List.mem_map.mp hd) fun m Z Z2=> ?_;subst Z2
  rfl
 rw [if_pos ⟨by refine rwl (List.length_map _) ?_;exact h1,by refine rwl (List.length_map _) ?_;exact h2,ha,up_pair hp⟩]
noncomputable def mCond:ME:= .bop .Or (mes [ne' (vr "again") (li []),ne' (vr "linkings") (.blt (nm "sorted") (vr "linkings")),ne' (.om (nm "table") (nm "items") .nil) mItems])
theorem cond_ev (hl:cs.length=8) (h8:lt8s cs) (kb:KB cs u S ρ) {l:List Lk} (hk:lk ρ (nm "linkings") = .d (lssD l)) (ha:lk ρ (nm "again") = .d (.list [])) (hp:pairwiseB ltOk l=true) (h1:1<=l.length) (h2:l.length<64):ev Φ (BB (some (tbOf cs))) mCond ρ=some (.bool false):=by
 refine v_bop (vb_or (t:=false) (v_cmp (v_var ha) (v_list vl_nil) ?_) (fun Z=>vb_or (t:=false) (v_cmp (v_var hk) (v_blt (v_var hk) ((bb_sorted _).trans (sorted_ev hp h1 h2))) (lss_self l)) (fun Z=>vb_or (t:=false) (v_cmp (v_om kb.tab vl_nil (bb_items (tb_ok hl h8))) (items_ev hl kb.row) (items_self cs)) (fun Z=>vb_nil) fun q=>by exact nomatch q) fun q=>by exact nomatch q) fun q=>by exact nomatch q)
 exact ne_self (by simp [PyData.eqv,PyData.eqvAll]) (by simp [PyData.depth,PyData.depthAll])
noncomputable def hideD:D:= .list (hideTk.map fun t=> .str (mkS (txt t)))
noncomputable def mHide:ME:=li [Mine.cs "\\)", Mine.cs "\"(\"", Mine.cs "\\(", Mine.cs "\"\\\")\"", Mine.cs "\\\"", Mine.cs "\\\\"]
theorem hide_ev:ev Φ B mHide ρ=some hideD:=by rfl
noncomputable def dressL (s:Nat):List D:=(List.range 8).map fun k=> .str (mkS (txt (dressT s k)))
noncomputable def mDress:ME:=cmpn (.ite (eq' (md (add (.idx (vr "sums") (ci 4)) (vr "k")) (ci 4)) (ci 0)) (.idx (vr "hide") (dv (md (add (.idx (vr "sums") (ci 4)) (vr "k")) (ci 24)) (ci 4))) (Mine.cs "")) "k" (ci 8) []
theorem bin_mod {a:Nat} (b:Nat) (hb:0<b):binD .Mod (.int a) (.int b)=some (.int (a%b:Nat)):=by
 simp only [bAI,bAS,bAL,bSI,bMI,bML,bOI,bDI]
 refine rwl (if_pos (by exact Int.natCast_pos.2 hb)) ?_;rfl
theorem bin_div {a:Nat} (b:Nat) (hb:0<b) (ha:a<2^62):binD .FloorDiv (.int a) (.int b)=some (.int (a/b:Nat)):=by
 simp only [bAI,bAS,bAL,bSI,bMI,bML,bOI,bDI]
 refine rwl (if_pos ⟨by exact Int.natCast_pos.2 hb,by exact Int.NonNeg.mk (_+Nat.succ 4611686018427387902),by exact Int.ofNat_lt.2 ha⟩) ?_;rfl
theorem bin_add {a b:Nat}:binD .Add (.int a) (.int b)=some (.int (a+b:Nat)):=by simp [bAI,bAS,bAL,bSI,bMI,bML,bOI,bDI]
theorem cmp_eqI (a b:Nat):cmpD .Eq (.int a) (.int b)=some (a==b):=by
 have e:PyData.eqv (.int (a:Int)) (.int (b:Int))=(a==b):=by
  have e1:PyData.eqv (.int (a:Int)) (.int (b:Int))=((a:Int)==(b:Int)):=by simp [PyData.eqv]
  refine rwl e1 ?_
  by_cases q:a=b
  ·subst q;simp
  ·exact rwl (beq_eq_false_iff_ne.mpr q) (rwl (beq_eq_false_iff_ne.mpr (by exact Nat.ToInt.of_diseq rfl rfl q)) rfl)
 have hd:(PyData.int (a:Int)).depth<=64:=by simp [PyData.depth]
 simp only [cEq,cNe,cLt,cLe,cGt,cGe,cIn,cNi]
 exact rwl (if_pos hd) (rwl e rfl)
theorem dress_ev {s:Nat} (hs:s<1000000) (hS:S[4]? = some (.int s)) (hl:S.length=5) (hsum:lk ρ (nm "sums") = .d (.list S)) (hh:lk ρ (nm "hide") = .d hideD):ev Φ B mDress ρ=some (.list (dressL s)):=by
 have hz:szL=100000:=rfl
 refine ev_mapR (n:=8) (fun k=> .str (mkS (txt (dressT s k)))) (v_c _) (by decide) fun i hi=> ?_
 have k1:lk (upd (hide [nm "k"] ρ) (nm "k") (.d (.int i))) (nm "sums") = .d (.list S):=(lk_ne rfl).trans (hide_d hsum rfl)
 have k2:lk (upd (hide [nm "k"] ρ) (nm "k") (.d (.int i))) (nm "hide") = .d hideD:=(lk_ne rfl).trans (hide_d hh rfl)
 have a1:ev Φ B (add (.idx (vr "sums") (ci 4)) (vr "k")) (upd (hide [nm "k"] ρ) (nm "k") (.d (.int i)))=some (.int (s+i:Nat)):=by
  refine v_bin (v_idx (v_var k1) (v_c (.int ((4:Nat):Int))) ?_) (v_var lk_self) bin_add
  exact rwl (idx_nat (by exact Eq.symm hl▸Nat.lt_add_one 4) (by exact Eq.symm hl▸Eq.symm hz▸Nat.le_of_ble_eq_true rfl)) (rwl hS rfl)
 refine v_ite (t:=((s+i)%4==0)) (v_cmp (v_bin a1 (v_c (.int ((4:Nat):Int))) (bin_mod 4 (by decide))) (v_c (.int ((0:Nat):Int))) (cmp_eqI _ _)) rfl (fun q=> ?_) fun q=> ?_
 ·rw [beq_iff_eq] at q
  have h6:(s+i)%24/4<6:=by exact Nat.div_lt_of_lt_mul (ml rfl rfl)
  refine v_idx (v_var k2) (v_bin (v_bin a1 (v_c (.int ((24:Nat):Int))) (bin_mod 24 (by decide))) (v_c (.int ((4:Nat):Int))) (bin_div 4 (by decide) (by exact ml rfl rfl))) ?_
  unfold dressT
  refine rwl (if_pos q) ?_
  show idxD (.list (hideTk.map fun t=> .str (mkS (txt t)))) _=_
  have hl6:hideTk.length=6:=rfl
  rw [idx_nat (by refine rwl (List.length_map _) (rwl hl6 ?_);exact h6) (by refine rwl (List.length_map _) (rwl hl6 ?_);exact Eq.symm hz▸Nat.le_of_ble_eq_true rfl),List.getElem?_map,List.getD_eq_getElem?_getD,List.getElem?_eq_getElem (by refine rwl hl6 ?_;exact h6)]
  rfl
 ·have : ¬ (s+i)%4=0:=by intro z;rw [z] at q;exact nomatch q
  unfold dressT
  refine rwl (if_neg this) ?_
  exact v_c _
end
end Mine
namespace Mine
open PySem
noncomputable def boolS (b:Bool):Str:=if b then "True" else "False"
theorem str_bool (b:Bool):strB (.bool b)=some (.str (boolS b)):=by rfl
theorem boolS_beq (a b:Bool):(boolS a==boolS b)=(a==b):=by
 have : ∀ a b:Bool,(boolS a==boolS b)=(a==b):=by decide +kernel
 exact this a b
noncomputable abbrev boolsD (bs:List Bool):D:= .list (bs.map fun b=> .str (boolS b))
theorem cmp_eqB {as bs:List Bool}:cmpD .Eq (boolsD as) (boolsD bs)=some (as==bs):=by
 have hd:(boolsD as).depth<=64:=by
  show PyData.depthAll _+1<=64
  have:=depthAll_map (f:=fun b=>PyData.str (boolS b)) (k:=0) (as:=as) fun x Z=>by simp [PyData.depth]
  exact Nat.lt_of_le_of_lt this (Nat.zero_lt_succ 63)
 have he:PyData.eqv (boolsD as) (boolsD bs)=(as==bs):=by
  show PyData.eqvAll _ _=_
  exact eqvAll_map fun x Z y Z=>by exact rwl (eqv_str _ _) (rwl (boolS_beq _ _) rfl)
 show (if (boolsD as).depth<=64 then some (PyData.eqv (boolsD as) (boolsD bs)) else none)=_
 exact rwl (if_pos hd) (rwl he rfl)
theorem cmp_bb (a b:Bool):cmpD .NotEq (.bool a) (.bool b)=some (!(a==b)):=by rcases a with _|_<;>rcases b with _|_<;>rfl
theorem cmp_nil {α:Type} {f:α->D} (l:List α) (hf : ∀ a∈l,(f a).depth<=10):cmpD .Eq (.list (l.map f)) (.list [])=some l.isEmpty:=by
 have hd:(PyData.list (l.map f)).depth<=64:=by
  show PyData.depthAll _+1<=64
  have:=depthAll_map (f:=f) (k:=10) (as:=l) hf
  exact Nat.lt_of_le_of_lt this (Nat.le_of_ble_eq_true rfl)
 show (if (PyData.list (l.map f)).depth<=64 then some (PyData.eqv (.list (l.map f)) (.list [])) else none)=_
 refine rwl (if_pos hd) ?_
 show some (PyData.eqvAll (l.map f) [])=_
 rcases l with _|_<;>simp [PyData.eqvAll]
section
variable {Φ B:Fns} {Γ:Gens} {ρ:Loc} {n:Nat} {u:Value} {S:List D} {m:Lk} {s:Nat} {t:Option Tab}
theorem link_items (a:Nat×Nat):items? (linkD a)=some [.int a.1,.int a.2]:=rfl
noncomputable def mEnds:ME:= .comp (vr "q") (tg2 "p" "q") false (vr "links") .nil
theorem ends_ev (hk:lk ρ (nm "links") = .d (linksD m)) (hl:m.length<=100):ev Φ B mEnds ρ=some (natsD (endsP m)):=by
 have hz:szL=100000:=rfl
 refine (ev_mapT2 (as:=m) (f:=linkD) (f1:=fun l=> .int l.1) (f2:=fun l=> .int l.2) (g:=fun l=> .int l.2) (v_var hk) rfl (by exact t2 hl rfl) link_items fun l hl=>v_var lk_self).trans ?_
 unfold endsP natsD
 refine rwl List.map_map ?_;rfl
noncomputable def textsL (m:Lk) (s:Nat):List D:=(List.range 8).map fun k=> .str (mkS (txt (pieceT m s k)))
noncomputable def mTexts:ME:=cmpn (add (.ite (.cmp .In (vr "k") (vr "ends")) (cs ")") (cs "(")) (.idx (vr "dress") (vr "k"))) "k" (ci 8) []
theorem texts_ev (hk:lk ρ (nm "ends") = .d (natsD (endsP m))) (hd:lk ρ (nm "dress") = .d (.list (dressL s))):ev Φ B mTexts ρ=some (.list (textsL m s)):=by
 have hz:szL=100000:=rfl
 refine ev_mapR (n:=8) (fun k=> .str (mkS (txt (pieceT m s k)))) (v_c _) (by decide) fun i hi=> ?_
 have k1:lk (upd (hide [nm "k"] ρ) (nm "k") (.d (.int i))) (nm "ends") = .d (natsD (endsP m)):=(lk_ne rfl).trans (hide_d hk rfl)
 have k2:lk (upd (hide [nm "k"] ρ) (nm "k") (.d (.int i))) (nm "dress") = .d (.list (dressL s)):=(lk_ne rfl).trans (hide_d hd rfl)
 refine v_bin (x:= .str (mkS [if bitP m i then 41 else 40])) (y:= .str (mkS (txt (dressT s i)))) (v_ite (t:=bitP m i) (v_cmp (v_var lk_self) (v_var k1) (in_nats i _)) rfl (fun q=> ?_) fun q=> ?_) (v_idx (v_var k2) (v_var lk_self) ?_) ?_
 ·refine rwl q ?_;rfl
 ·refine rwl q ?_;rfl
 ·unfold dressL
  rw [idx_nat (by refine rwl (List.length_map _) (rwl List.length_range ?_);exact hi) (by refine rwl (List.length_map _) (rwl List.length_range ?_);exact Eq.symm hz▸Nat.le_of_ble_eq_true rfl),List.getElem?_map,List.getElem?_range hi];rfl
 ·have:=(dress_ok s i).2
  simp only [bAI,bAS,bAL,bSI,bMI,bML,bOI,bDI]
  rw [if_pos (by refine rwl (mkS_len _) (rwl (mkS_len _) ?_);simp;exact t2 (Nat.add_le_add_left this _) rfl),mkS_app]
  rfl
noncomputable def mOver:ME:=cmpn (str' (eq' (.comp (vr "p") (tg2 "p" "q") false (vr "links") (mes [.chn .Lt .LtE (vr "p") (vr "k") (vr "q")])) (li []))) "k" (ci 8) []
theorem over_ev (hk:lk ρ (nm "links") = .d (linksD m)) (hl:m.length<=100):ev Φ (BB t) mOver ρ=some (boolsD ((List.range 8).map (overP m))):=by
 have hz:szL=100000:=rfl
 refine (ev_mapR (n:=8) (fun k=> .str (boolS (overP m k))) (v_c _) (by decide) fun i hi=> ?_).trans (by rw [boolsD];refine rwl List.map_map ?_;rfl)
 generalize hρ1:upd (hide [nm "k"] ρ) (nm "k") (.d (.int i))=ρ1
 have k1:lk ρ1 (nm "links") = .d (linksD m):=by refine lwr hρ1 ?_;exact (lk_ne rfl).trans (hide_d hk rfl)
 have k2:lk ρ1 (nm "k") = .d (.int i):=lkS hρ1
 have c1:ev Φ (BB t) (.comp (vr "p") (tg2 "p" "q") false (vr "links") (mes [.chn .Lt .LtE (vr "p") (vr "k") (vr "q")])) ρ1=some (.list ((m.filter fun l=>decide (l.1<i)&&decide (i<=l.2)).map fun l=> .int l.1)):=by
  refine ev_filterT2 (as:=m) (f:=linkD) (f1:=fun l=> .int l.1) (f2:=fun l=> .int l.2) (g:=fun l=> .int l.1) (p:=fun l=>decide (l.1<i)&&decide (i<=l.2)) (v_var k1) rfl (by exact t2 hl rfl) link_items (fun l hl=> ?_) fun l hl Z=>v_var ((lk_ne rfl).trans lk_self)
  refine va_one (v_chn (v_var ((lk_ne rfl).trans lk_self)) (v_var (d:= .int i) ((lk_ne rfl).trans ((lk_ne rfl).trans (hide_d k2 rfl)))) (v_var lk_self) ?_ ?_) rfl
  ·simp [cEq,cNe,cLt,cLe,cGt,cGe,cIn,cNi]
  ·simp [cEq,cNe,cLt,cLe,cGt,cGe,cIn,cNi]
 refine v_blt (v_cmp c1 (v_list vl_nil) (cmp_nil _ fun a Z=>by simp [PyData.depth])) ((bb_str _).trans ?_)
 refine rwl (str_bool _) ?_;rfl
theorem check_ev {e:ME} {ks:List Nat} (h:ev (Phi (n+2)) (BB t) e ρ=some (.list (ks.map fun k=> .str (mkS (txt (pieceT m s k)))))) (hk:ks.length<=16) (hn:isOwn e=false):ev (Phi (n+2)) (BB t) (str' (cl "_check_parenthesis" [.join (nm "") e])) ρ=some (.str (boolS (balP (ks.map (bitP m))))):=by
 have hj:joinB (nm "") (.list (ks.map fun k=> .str (mkS (txt (pieceT m s k)))))=some (.str (mkS (txt (textT m s ks)))):=by
  have e1:(ks.map fun k=>PyData.str (mkS (txt (pieceT m s k))))=(ks.map fun k=>txt (pieceT m s k)).map fun l=> .str (mkS l):=by refine rwl List.map_map ?_;rfl
  have e2:(ks.map fun k=>txt (pieceT m s k)).flatten=txt (textT m s ks):=by
   unfold textT txt
   exact rwl List.flatMap_assoc (rwl List.flatMap_def rfl)
  have hlen:=(text_ok m s ks).2
  refine rwl e1 ?_
  refine (join_B ?_).trans (by exact rwl e2 rfl)
  refine lwr List.length_flatten (rwl e2 (rwl (List.length_map _) ?_))
  exact H436 hlen hk
 refine v_blt (v_call (vl_mes1 (v_join h ((bb_join _ _).trans hj) hn)) (phi_text m s ks hk)) ((bb_str _).trans (str_bool _))
noncomputable def mTold:ME:= .comp (str' (cl "_check_parenthesis" [.join (nm "") (.sl (vr "texts") (vr "p") (add (vr "q") (ci 1)) nn)])) (tg2 "p" "q") false (vr "links") .nil
theorem sl_texts {ρ:Loc} {lo hi:ME} {dl dh:D} {l h:Option Int} (ht:lk ρ (nm "texts") = .d (.list (textsL m s))) (e1:ev Φ B lo ρ=some dl) (e2:ev Φ B hi ρ=some dh) (hl:partD dl=some l) (hh:partD dh=some h) :
  ev Φ B (.sl (vr "texts") lo hi nn) ρ=some (.list (((List.range 8).take (clp h 8 8)).drop (clp l 0 8) |>.map fun k=> .str (mkS (txt (pieceT m s k))))):=by
 refine (v_sl (v_var ht) e1 e2 (v_c _) (sl_list hl hh (by unfold textsL;refine rwl (List.length_map _) (rwl List.length_range ?_);decide))).trans ?_
 unfold textsL
 exact rwl (List.length_map _) (rwl List.length_range (rwl List.map_drop (rwl List.map_take rfl)))
theorem told_ev (hk:lk ρ (nm "links") = .d (linksD m)) (ht:lk ρ (nm "texts") = .d (.list (textsL m s))) (hl:m.length<=100) (h8 : ∀ l∈m,l.1<8/\l.2<8):ev (Phi (n+2)) (BB t) mTold ρ=some (boolsD (toldP m)):=by
 have hz:szL=100000:=rfl
 refine (ev_mapT2 (as:=m) (f:=linkD) (f1:=fun l=> .int l.1) (f2:=fun l=> .int l.2) (g:=fun l=> .str (boolS (balP (((List.range 8).take (l.2+1)).drop l.1 |>.map (bitP m))))) (v_var hk) rfl (by exact t2 hl rfl) link_items fun l hl=> ?_).trans (by unfold toldP;rw [boolsD];refine rwl List.map_map ?_;rfl)
 refine ea02 (h8 l hl) fun h1 h2=> ?_
 refine check_ev (m:=m) (s:=s) (ks:=((List.range 8).take (l.2+1)).drop l.1) ?_ (by simp;exact H437) rfl
 refine (sl_texts (m:=m) (s:=s) (l:=some (l.1:Int)) (h:=some ((l.2+1:Nat):Int)) ?_ (v_var ((lk_ne rfl).trans lk_self)) (v_bin (v_var lk_self) (v_c _) (bin_add (b:=1))) rfl rfl).trans ?_
 ·exact (lk_ne rfl).trans ((lk_ne rfl).trans (hide_d ht rfl))
 ·exact rwl clp_nat (rwl clp_nat (rwl (Nat.min_eq_left (by exact Nat.le_of_succ_le h1)) (rwl (Nat.min_eq_left (by exact h2)) rfl)))
end
end Mine
namespace Mine
open PySem
section
variable {Φ B:Fns} {Γ:Gens} {ρ:Loc} {n:Nat} {u:Value} {S:List D} {m:Lk} {s:Nat} {t:Option Tab}
noncomputable def mCheck:ME:= .bop .Or (mes [ne' (cmpr (vr "one") "one" (vr "told") [.cmp .NotIn (vr "one") (tu [cs "True", cs "False"])]) (li []),ne' (eq' (vr "told") (mul (li [cs "True"]) (ci 4))) (eq' (.idx (ow "corners") (ci (-1))) (ci 5))])
theorem check_or {bs:List Bool} {cn:List Nat} {c:Nat} (ht:lk ρ (nm "told") = .d (boolsD bs)) (hc:lk ρ (nm "corners") = .o ((cn++[c]).map fun (n:Nat)=>PyData.int n)) (h4:bs.length=4) (he:(bs.all id)=(c==5)) (hcl:cn.length<=1000):ev Φ B mCheck ρ=some (.bool false):=by
 have hz:szL=100000:=rfl
 have t1:ev Φ B (cmpr (vr "one") "one" (vr "told") [.cmp .NotIn (vr "one") (tu [cs "True", cs "False"])]) ρ=some (.list []):=by
  refine (ev_filterT (as:=bs) (f:=fun b=> .str (boolS b)) (p:=fun Z=>false) (g:=fun Z=> .none) (v_var ht) rfl (by exact Eq.symm h4▸Eq.symm hz▸Nat.le_of_ble_eq_true rfl) (fun b hb=> ?_) fun b hb q=>by exact nomatch q).trans ?_
  ·refine va_one (v_cmp (t:=false) (v_var lk_self) (v_tup (vl_mes2 (v_c _) (v_c _))) ?_) rfl
   rcases b with _|_<;>rfl
  ·have:bs.filter (fun Z=>false)=[]:=by simp
   refine rwl this ?_;rfl
 have t2:ev Φ B (eq' (vr "told") (mul (li [cs "True"]) (ci 4))) ρ=some (.bool (bs.all id)):=by
  refine v_cmp (v_var ht) (v_bin (v_list (vl_mes1 (v_c _))) (v_c _) (z:=boolsD [true,true,true,true]) (by rfl)) (cmp_eqB.trans ?_)
  match bs,h4 with
  | [a,b,c,d],_=>rcases a with _|_<;>rcases b with _|_<;>rcases c with _|_<;>rcases d with _|_<;>rfl
 have t3:ev Φ B (eq' (.idx (ow "corners") (ci (-1))) (ci 5)) ρ=some (.bool (c==5)):=by
  refine v_cmp (v_idxO hc (v_c (.int (-1-((0:Nat):Int)))) (z:= .int c) ?_) (v_c (.int ((5:Nat):Int))) (cmp_eqI c 5)
  refine rwl (idx_neg (by simp) (by simp;exact H469 (Nat.lt_succ_of_le hcl) H499 (Nat.le_of_ble_eq_true rfl) rfl)) ?_
  simp
 refine v_bop (vb_or (t:=false) (v_cmp t1 (v_list vl_nil) (ne_self (by simp [PyData.eqv,PyData.eqvAll]) (by simp [PyData.depth,PyData.depthAll]))) (fun Z=>vb_or (t:=false) (v_cmp t2 t3 ?_) (fun Z=>vb_nil) fun q=>by exact nomatch q) fun q=>by exact nomatch q)
 refine rwl (cmp_bb _ _) (rwl he ?_);simp
noncomputable def mLoopB:MSs:=mss [
  .asg (nm "ends") mEnds,
  .asg (nm "texts") mTexts,
  .asg (nm "over") mOver,
  .asg (nm "told") mTold,
  .app (nm "corners") (cl "_law_corners" [vr "links"]),
  .ite mCheck (mss [.ret (.c (.bool false))]) .nil]
theorem pair_facts (hm:m∈pairings):(∀ l∈m,l.1<8/\l.2<8)/\m.length=4/\((toldP m).all id)=(cornersP m==5) /\ ∀ k<8,balP (((List.range 8).take k).map (bitP m))=overP m k/\balP (((List.range 8).drop k++(List.range 8).take k).map (bitP m))=overP m k:=by
 have:=List.all_eq_true.mp pairs_all m hm
 unfold perPair at this
 simp only [Bool.and_eq_true,decide_eq_true_eq,beq_iff_eq] at this
 obtain ⟨⟨⟨h1,h2⟩,h3⟩,h4⟩:=this
 refine ⟨fun l hl=> ?_,h2,h3,fun k hk=> ?_⟩
 ·have:=List.all_eq_true.mp h1 l hl
  simpa using this
 ·have:=List.all_eq_true.mp h4 k (List.mem_range.mpr hk)
  simpa using this
structure LJ (cs:List Nat) (u:Value) (S:List D) (s:Nat) (cn:List Nat) (last:Option Lk) (ρ:Loc):Prop where
 kb:KB cs u S ρ
 dr:lk ρ (nm "dress") = .d (.list (dressL s))
 cn:lk ρ (nm "corners") = .o (cn.map fun (n:Nat)=>PyData.int n)
 te : ∀ m,last=some m->lk ρ (nm "texts") = .d (.list (textsL m s))/\lk ρ (nm "over") = .d (boolsD ((List.range 8).map (overP m)))
theorem loop_turn {cs':List Nat} {cn:List Nat} {last:Option Lk} (j:LJ cs' u S s cn last ρ) (hm:m∈pairings) (hc:cn.length<=500) : ∃ ρ₂,exs (Phi (n+2)) (BB t) GG mLoopB (upd ρ (nm "links") (.d (linksD m)))=some (ρ₂,none)/\LJ cs' u S s (cn++[cornersP m]) (some m) ρ₂:=by
 have hz:szL=100000:=rfl
 refine ea04 (pair_facts hm) fun h8 h4 he Z=> ?_
 generalize hρ0:upd ρ (nm "links") (.d (linksD m))=ρ0
 have a1:lk ρ0 (nm "links") = .d (linksD m):=lkS hρ0
 have a2:lk ρ0 (nm "dress") = .d (.list (dressL s)):=by refine lwr hρ0 ?_;exact (lk_ne rfl).trans j.dr
 have a3:lk ρ0 (nm "corners") = .o (cn.map fun (n:Nat)=>PyData.int n):=by refine lwr hρ0 ?_;exact (lk_ne rfl).trans j.cn
 have a4:KB cs' u S ρ0:=by refine lwr hρ0 ?_;exact j.kb.upd rfl rfl rfl
 generalize hρ1:upd ρ0 (nm "ends") (.d (natsD (endsP m)))=ρ1
 have b1:lk ρ1 (nm "links") = .d (linksD m):=by refine lwr hρ1 ?_;exact (lk_ne rfl).trans a1
 have b2:lk ρ1 (nm "dress") = .d (.list (dressL s)):=by refine lwr hρ1 ?_;exact (lk_ne rfl).trans a2
 have b3:lk ρ1 (nm "corners") = .o (cn.map fun (n:Nat)=>PyData.int n):=by refine lwr hρ1 ?_;exact (lk_ne rfl).trans a3
 have b4:KB cs' u S ρ1:=by refine lwr hρ1 ?_;exact a4.upd rfl rfl rfl
 have b5:lk ρ1 (nm "ends") = .d (natsD (endsP m)):=lkS hρ1
 generalize hρ2:upd ρ1 (nm "texts") (.d (.list (textsL m s)))=ρ2
 have c1:lk ρ2 (nm "links") = .d (linksD m):=by refine lwr hρ2 ?_;exact (lk_ne rfl).trans b1
 have c2:lk ρ2 (nm "dress") = .d (.list (dressL s)):=by refine lwr hρ2 ?_;exact (lk_ne rfl).trans b2
 have c3:lk ρ2 (nm "corners") = .o (cn.map fun (n:Nat)=>PyData.int n):=by refine lwr hρ2 ?_;exact (lk_ne rfl).trans b3
 have c4:KB cs' u S ρ2:=by refine lwr hρ2 ?_;exact b4.upd rfl rfl rfl
 have c5:lk ρ2 (nm "texts") = .d (.list (textsL m s)):=lkS hρ2
 generalize hρ3:upd ρ2 (nm "over") (.d (boolsD ((List.range 8).map (overP m))))=ρ3
 have d1:lk ρ3 (nm "links") = .d (linksD m):=by refine lwr hρ3 ?_;exact (lk_ne rfl).trans c1
 have d2:lk ρ3 (nm "dress") = .d (.list (dressL s)):=by refine lwr hρ3 ?_;exact (lk_ne rfl).trans c2
 have d3:lk ρ3 (nm "corners") = .o (cn.map fun (n:Nat)=>PyData.int n):=by refine lwr hρ3 ?_;exact (lk_ne rfl).trans c3
 have d4:KB cs' u S ρ3:=by refine lwr hρ3 ?_;exact c4.upd rfl rfl rfl
 have d5:lk ρ3 (nm "texts") = .d (.list (textsL m s)):=by refine lwr hρ3 ?_;exact (lk_ne rfl).trans c5
 have d6:lk ρ3 (nm "over") = .d (boolsD ((List.range 8).map (overP m))):=lkS hρ3
 generalize hρ4:upd ρ3 (nm "told") (.d (boolsD (toldP m)))=ρ4
 have e1:lk ρ4 (nm "links") = .d (linksD m):=by refine lwr hρ4 ?_;exact (lk_ne rfl).trans d1
 have e2:lk ρ4 (nm "dress") = .d (.list (dressL s)):=by refine lwr hρ4 ?_;exact (lk_ne rfl).trans d2
 have e3:lk ρ4 (nm "corners") = .o (cn.map fun (n:Nat)=>PyData.int n):=by refine lwr hρ4 ?_;exact (lk_ne rfl).trans d3
 have e4:KB cs' u S ρ4:=by refine lwr hρ4 ?_;exact d4.upd rfl rfl rfl
 have e5:lk ρ4 (nm "texts") = .d (.list (textsL m s)):=by refine lwr hρ4 ?_;exact (lk_ne rfl).trans d5
 have e6:lk ρ4 (nm "over") = .d (boolsD ((List.range 8).map (overP m))):=by refine lwr hρ4 ?_;exact (lk_ne rfl).trans d6
 have e7:lk ρ4 (nm "told") = .d (boolsD (toldP m)):=lkS hρ4
 have hcorn:Phi (n+2) (nm "_law_corners") [linksD m]=some (.int (cornersP m)):=isInt_get (List.all_eq_true.mp (corners_all (n+1)) m hm)
 have happ:ex (Phi (n+2)) (BB t) GG (.app (nm "corners") (cl "_law_corners" [vr "links"])) ρ4=some (setO ρ4 (nm "corners") ((cn.map fun (n:Nat)=>PyData.int n)++[.int (cornersP m)]),none):=
  x_app (v_call (vl_mes1 (v_var e1)) hcorn) e3 (by refine rwl (List.length_map _) ?_;exact t2 hc rfl)
 have hc':lk (setO ρ4 (nm "corners") ((cn.map fun (n:Nat)=>PyData.int n)++[.int (cornersP m)])) (nm "corners") = .o ((cn++[cornersP m]).map fun (n:Nat)=>PyData.int n):=by refine rwl lk_setO (rwl List.map_append ?_);rfl
 refine ⟨setO ρ4 (nm "corners") ((cn.map fun (n:Nat)=>PyData.int n)++[.int (cornersP m)]),?_,e4.setO rfl rfl rfl,lk_setO_ne e2 rfl,hc',fun m' hm'=> ?_⟩
 ·refine s_cons (x_asg (ends_ev a1 (by exact Eq.symm h4▸Nat.le_of_ble_eq_true rfl))) ?_
  refine rwl hρ1 ?_
  refine s_cons (x_asg (texts_ev b5 b2)) ?_
  refine rwl hρ2 ?_
  refine s_cons (x_asg (over_ev c1 (by exact Eq.symm h4▸Nat.le_of_ble_eq_true rfl))) ?_
  refine rwl hρ3 ?_
  refine s_cons (x_asg (told_ev d1 d5 (by exact Eq.symm h4▸Nat.le_of_ble_eq_true rfl) h8)) ?_
  refine rwl hρ4 ?_
  refine s_cons happ (s_last (x_ite (t:=false) (check_or (lk_setO_ne e7 rfl) hc' ?_ he (by exact Nat.le_trans hc (Nat.le_of_ble_eq_true rfl))) rfl (fun q=>by exact nomatch q) fun Z=>s_nil))
  unfold toldP;refine rwl (List.length_map _) ?_;exact h4
 ·obtain rfl:=Option.some.inj hm'
  exact ⟨lk_setO_ne e5 rfl,lk_setO_ne e6 rfl⟩
end
end Mine
namespace Mine
open PySem
noncomputable def stepL (b:List Nat×Option Lk) (m:Lk):List Nat×Option Lk:=(b.1++[cornersP m],some m)
theorem fold_stepL : ∀ (L:List Lk) (c:List Nat) (l:Option Lk),(L.foldl stepL (c,l)).1=c++L.map cornersP/\((L=[]/\(L.foldl stepL (c,l)).2=l) \/ ∃ m∈L,(L.foldl stepL (c,l)).2=some m)
 | [],c,l=>⟨by simp,.inl ⟨rfl,rfl⟩⟩
 | m::L,c,l=>by
  refine ea02 (fold_stepL L (c++[cornersP m]) (some m)) fun h1 h2=> ?_
  refine rwl List.foldl_cons ?_
  show ((L.foldl stepL (c++[cornersP m],some m)).1=_/\_)
  refine ⟨by refine rwl h1 ?_;simp,.inr ?_⟩
  rcases h2 with ⟨_,h2⟩|⟨m',hm',h2⟩
  ·exact ⟨m,List.mem_cons_self,h2⟩
  ·exact ⟨m',List.mem_cons_of_mem _ hm',h2⟩
theorem genus_le (cs:List Nat):genusP cs<=2:=by
 unfold genusP
 split
 ·exact Nat.zero_le 2
 ·split<;>exact (Nat.le_of_ble_eq_true rfl)
section
variable {n:Nat} {cs:List Nat} {u:Value} {S:List D} {ρ:Loc} {s:Nat} {m:Lk} {t:Option Tab}
theorem fronts_ev (ht:lk ρ (nm "texts") = .d (.list (textsL m s))) (hm:m∈pairings):ev (Phi (n+2)) (BB t) (cmpn (str' (cl "_check_parenthesis" [.join (nm "") (.sl (vr "texts") nn (vr "k") nn)])) "k" (len' (vr "texts")) []) ρ=some (boolsD ((List.range 8).map (overP m))):=by
 obtain ⟨_,_,_,hf⟩:=pair_facts hm
 have hlen:ev (Phi (n+2)) (BB t) (len' (vr "texts")) ρ=some (.int (8:Nat)):=v_len (l:=List.range 8) ht (by decide)
 refine (ev_mapR (n:=8) (fun k=> .str (boolS (overP m k))) hlen (by decide) fun i hi=> ?_).trans (by rw [boolsD];refine rwl List.map_map ?_;rfl)
 refine lwr ((hf i hi).1) ?_
 refine check_ev (m:=m) (s:=s) (ks:=(List.range 8).take i) ?_ (by simp;exact t2 (Nat.min_le_right _ _) rfl) rfl
 refine (sl_texts (m:=m) (s:=s) (l:=none) (h:=some (i:Int)) ((lk_ne rfl).trans (hide_d ht rfl)) (v_c _) (v_var lk_self) rfl rfl).trans ?_
 exact rwl clp_none (rwl clp_nat (rwl List.drop_zero (rwl (Nat.min_eq_left (by exact Nat.le_of_succ_le hi)) rfl)))
theorem turned_ev (ht:lk ρ (nm "texts") = .d (.list (textsL m s))) (hm:m∈pairings):ev (Phi (n+2)) (BB t) (cmpn (str' (cl "_check_parenthesis" [.join (nm "") (add (.sl (vr "texts") (vr "k") nn nn) (.sl (vr "texts") nn (vr "k") nn))])) "k" (len' (vr "texts")) []) ρ=some (boolsD ((List.range 8).map (overP m))):=by
 obtain ⟨_,_,_,hf⟩:=pair_facts hm
 have hlen:ev (Phi (n+2)) (BB t) (len' (vr "texts")) ρ=some (.int (8:Nat)):=v_len (l:=List.range 8) ht (by decide)
 refine (ev_mapR (n:=8) (fun k=> .str (boolS (overP m k))) hlen (by decide) fun i hi=> ?_).trans (by rw [boolsD];refine rwl List.map_map ?_;rfl)
 refine lwr ((hf i hi).2) ?_
 have k1:lk (upd (hide [nm "k"] ρ) (nm "k") (.d (.int i))) (nm "texts") = .d (.list (textsL m s)):=(lk_ne rfl).trans (hide_d ht rfl)
 refine check_ev (m:=m) (s:=s) (ks:=(List.range 8).drop i++(List.range 8).take i) ?_ (by simp;exact t2 (Nat.le_of_eq mn) rfl) rfl
 refine v_bin (sl_texts (m:=m) (s:=s) (l:=some (i:Int)) (h:=none) k1 (v_var lk_self) (v_c _) rfl rfl) (sl_texts (m:=m) (s:=s) (l:=none) (h:=some (i:Int)) k1 (v_c _) (v_var lk_self) rfl rfl) ?_
 rw [clp_none,clp_nat];refine rwl clp_none (rwl clp_nat ?_);rw [List.drop_zero];refine rwl (Nat.min_eq_left (by exact Nat.le_of_succ_le hi)) ?_
 have e8:(List.range 8).take 8=List.range 8:=rfl
 refine rwl e8 ?_
 simp only [bAI,bAS,bAL,bSI,bMI,bML,bOI,bDI]
 exact rwl (if_pos (by simp [szL];exact t2 (Nat.le_of_eq mn) rfl)) (rwl List.map_append rfl)
theorem segB (hl:cs.length=8) (h8:lt8s cs) (hgood:good cs=true) (kb:KB cs u S ρ) (hs:s<1000000) (hS:S[4]? = some (.int s)) (hS5:S.length=5) : ∃ ρ',exs (Phi (n+2)) (BB (some (tbOf cs))) GG pLawB ρ=some (ρ',some (.bool true)):=by
 have hz:szL=100000:=rfl
 unfold good at hgood
 simp only [Bool.and_eq_true,decide_eq_true_eq,beq_iff_eq] at hgood
 obtain ⟨⟨g1,g2⟩,g3⟩:=hgood
 refine ea14 (segB1 (n:=n) hl h8 kb) fun ρ3 kb3 k3 c3 hgo=> ?_
 have hsub:(linkingsP (matesP cs)).Sublist pairings:=round_sub (sub_mates hl) (round_sub (sub_mates hl) (round_sub (sub_mates hl) (round_sub (sub_mates hl) (List.Sublist.refl _))))
 generalize hL:linkingsP (matesP cs)=L at *
 have hp:pairwiseB ltOk L=true:=pair_sub hsub pairs_up
 have hmem : ∀ m∈L,m∈pairings:=fun m hm=>hsub.mem hm
 generalize hρ4:upd ρ3 (nm "again") (.d (.list []))=ρ4
 have a1:KB cs u S ρ4:=by refine lwr hρ4 ?_;exact kb3.upd rfl rfl rfl
 have a2:lk ρ4 (nm "linkings") = .d (lssD L):=by refine lwr hρ4 ?_;exact (lk_ne rfl).trans k3
 have a3:lk ρ4 (nm "corners") = .o (([0]:List Nat).map fun (n:Nat)=>PyData.int n):=by refine lwr hρ4 ?_;exact (lk_ne rfl).trans c3
 have a4:lk ρ4 (nm "again") = .d (.list []):=lkS hρ4
 generalize hρ5:upd ρ4 (nm "hide") (.d hideD)=ρ5
 have b1:KB cs u S ρ5:=by refine lwr hρ5 ?_;exact a1.upd rfl rfl rfl
 have b2:lk ρ5 (nm "linkings") = .d (lssD L):=by refine lwr hρ5 ?_;exact (lk_ne rfl).trans a2
 have b3:lk ρ5 (nm "corners") = .o (([0]:List Nat).map fun (n:Nat)=>PyData.int n):=by refine lwr hρ5 ?_;exact (lk_ne rfl).trans a3
 have b4:lk ρ5 (nm "hide") = .d hideD:=lkS hρ5
 generalize hρ6:upd (upd (upd ρ5 (nm "dress") (.d (.list (dressL s)))) (nm "texts") (.d (.list []))) (nm "over") (.d (.list []))=ρ6
 have d1:KB cs u S ρ6:=by refine lwr hρ6 ?_;exact ((b1.upd rfl rfl rfl).upd rfl rfl rfl).upd rfl rfl rfl
 have d2:lk ρ6 (nm "linkings") = .d (lssD L):=by refine lwr hρ6 ?_;exact (lk_ne rfl).trans ((lk_ne rfl).trans ((lk_ne rfl).trans b2))
 have d3:lk ρ6 (nm "corners") = .o (([0]:List Nat).map fun (n:Nat)=>PyData.int n):=by refine lwr hρ6 ?_;exact (lk_ne rfl).trans ((lk_ne rfl).trans ((lk_ne rfl).trans b3))
 have d4:lk ρ6 (nm "dress") = .d (.list (dressL s)):=by refine lwr hρ6 ?_;exact (lk_ne rfl).trans ((lk_ne rfl).trans lk_self)
 obtain ⟨ρ7,e7,j7,_,_⟩:=runFor_T (tg:= .n (nm "links")) (f:=linksD) (F:=exs (Phi (n+2)) (BB (some (tbOf cs))) GG mLoopB) stepL (fun b rest ρ=>LJ cs u S s b.1 b.2 ρ/\(∀ m∈rest,m∈pairings)/\b.1.length+rest.length<=500)
  (fun b m rest ρ Z9=>ea03 Z9 fun j1 j2 j3=>by
   simp only [List.length_cons] at j3
   obtain ⟨ρ₂,e2,j⟩:=loop_turn (n:=n) (t:=some (tbOf cs)) j1 (j2 m List.mem_cons_self) (by exact Nat.le_of_add_right_le j3)
   exact ⟨_,ρ₂,rfl,e2,j,fun m' hm'=>j2 m' (List.mem_cons_of_mem _ hm'),by unfold stepL;simp;exact H444 j3⟩) L ([0],none) ρ6 ⟨⟨d1,d4,d3,fun m q=>by cases q⟩,hmem,by simp;exact H445 g2⟩
 refine ea02 (fold_stepL L [0] none) fun f1 f2=> ?_
 obtain ⟨m,hm,f2⟩ : ∃ m∈L,(L.foldl stepL ([0],none)).2=some m:=by
  rcases f2 with ⟨rfl,_⟩|h
  ·simp at g1
  ·exact h
 obtain ⟨w1,w2,w3,w4⟩:=j7
 rw [f1] at w3
 refine ea02 (w4 m f2) fun w4 w5=> ?_
 have hmp:=hmem m hm
 generalize hρ8:upd (upd ρ7 (nm "fronts") (.d (boolsD ((List.range 8).map (overP m))))) (nm "turned") (.d (boolsD ((List.range 8).map (overP m))))=ρ8
 have x1:KB cs u S ρ8:=by refine lwr hρ8 ?_;exact (w1.upd rfl rfl rfl).upd rfl rfl rfl
 have x2:lk ρ8 (nm "corners") = .o (([0]++L.map cornersP).map fun (n:Nat)=>PyData.int n):=by refine lwr hρ8 ?_;exact (lk_ne rfl).trans ((lk_ne rfl).trans w3)
 have x3:lk ρ8 (nm "over") = .d (boolsD ((List.range 8).map (overP m))):=by refine lwr hρ8 ?_;exact (lk_ne rfl).trans ((lk_ne rfl).trans w5)
 have x4:lk ρ8 (nm "fronts") = .d (boolsD ((List.range 8).map (overP m))):=by refine lwr hρ8 ?_;exact (lk_ne rfl).trans lk_self
 have x5:lk ρ8 (nm "turned") = .d (boolsD ((List.range 8).map (overP m))):=lkS hρ8
 have hst:lt8s (struckP cs)/\(struckP cs).length<=30:=by
  have hf:lt8s (cs.foldl stkS []):=by
   have : ∀ (l r:List Nat),lt8s l->lt8s r->lt8s (l.foldl stkS r):=by
    intro l
    induction l with
    | nil=>intro r Z hr;exact hr
    | cons c l ih=>
     intro r hl hr
     refine ih _ (fun d hd=>hl d (List.mem_cons_of_mem _ hd)) ?_
     unfold stkS
     split
     ·exact lt8s_take hr _
     ·exact lt8s_app hr (one_lt (hl c List.mem_cons_self))
   exact this cs [] h8 fun c hc=>by cases hc
  have hln:=fold_len cs []
  simp only [List.length_nil] at hln
  have hit : ∀ (k:Nat) (r r':List Nat),lt8s r->iter whC whS k r=some r'->lt8s r'/\r'.length<=r.length:=by
   intro k
   induction k with
   | zero=>intro r r' Z q;cases q
   | succ k ih=>
    intro r r' hr q
    unfold iter at q
    split at q
    ·refine ea02 (ih (whS r) r' (lt8s_drop (lt8s_take hr _) _) q) fun y1 y2=> ?_
     refine ⟨y1,?_⟩
     have:(whS r).length<=r.length:=by unfold whS initL;refine rwl List.length_drop (rwl List.length_take ?_);exact Nat.le_trans (Nat.sub_le _ _) (Nat.min_le_right _ _)
     exact Nat.le_trans y2 this
    ·obtain rfl:=Option.some.inj q;exact ⟨hr,Nat.le_refl _⟩
  refine ea11 (iter_some 20 (cs.foldl stkS []) (by exact H446 hln hl)) fun r' hr'=> ?_
  refine ea02 (hit 20 _ r' hf hr') fun y1 y2=> ?_
  have:struckP cs=r':=by unfold struckP;refine rwl hr' ?_;rfl
  refine rwl this ?_
  exact ⟨y1,by exact H447 y2 hln hl⟩
 generalize hρ9:upd ρ8 (nm "ring") (.d (rowS (struckP cs)))=ρ9
 have y1:lk ρ9 (nm "ring") = .d (rowS (struckP cs)):=lkS hρ9
 have gen:ev (Phi (n+2)) (BB (some (tbOf cs))) (.ite (eq' (vr "ring") (li [])) (ci 0) (.ite (cl "_law_is_commutator" [vr "ring"]) (ci 1) (ci 2))) ρ9=some (.int (genusP cs:Nat)):=by
  refine v_ite (t:=struckP cs==[]) (v_cmp (v_var y1) (v_list vl_nil) (cmp_eqR (b:=[]) hst.1 fun c hc=>by cases hc)) rfl (fun q=> ?_) fun q=> ?_
  ·unfold genusP;refine rwl (if_pos q) ?_;rfl
  ·refine v_ite (t:=commP (struckP cs)) (v_call (vl_mes1 (v_var y1)) (phi_comm hst.1 hst.2)) rfl (fun q'=> ?_) fun q'=> ?_
   ·unfold genusP;rw [if_neg (by refine rwl q ?_;decide),if_pos q'];rfl
   ·unfold genusP;rw [if_neg (by refine rwl q ?_;decide),if_neg (by refine rwl q' ?_;decide)];rfl
 generalize hρ10:upd ρ9 (nm "genus") (.d (.int (genusP cs:Nat)))=ρ10
 have up2 : ∀ {y:Str} {b:Bd},(nm "ring" == y)=false->(nm "genus" == y)=false->lk ρ8 y=b->lk ρ10 y=b:=fun h1 h2 q=>by
  refine lwr hρ10 (rwl (lk_ne h2) (lwr hρ9 (rwl (lk_ne h1) ?_)));exact q
 have z1:lk ρ10 (nm "genus") = .d (.int (genusP cs:Nat)):=lkS hρ10
 have fin:ev (Phi (n+2)) (BB (some (tbOf cs))) (.bop .And (mes [eq' (vr "fronts") (vr "over"),eq' (vr "turned") (vr "over"),eq' (.blt (nm "max") (ow "corners")) (sub (ci 5) (mul (ci 2) (vr "genus")))])) ρ10=some (.bool true):=by
  have hov:=up2 rfl rfl x3
  refine v_bop (vb_and (t:=true) (v_cmp (v_var (up2 rfl rfl x4)) (v_var hov) (cmp_eqB.trans (by simp))) (fun Z=>vb_and (t:=true) (v_cmp (v_var (up2 rfl rfl x5)) (v_var hov) (cmp_eqB.trans (by simp))) (fun Z=>vb_and (t:=true) (v_cmp (v_bltO (up2 rfl rfl x2) ((bb_max _).trans (max_B _ (by simp)))) (v_bin (v_c (.int 5)) (v_bin (v_c (.int 2)) (v_var z1) (z:= .int (2*genusP cs:Nat)) ?_) (z:= .int (5-2*genusP cs:Nat)) ?_) ?_) (fun Z=>vb_nil) fun q=>by cases q) fun q=>by cases q) fun q=>by cases q)
  ·simp [bAI,bAS,bAL,bSI,bMI,bML,bOI,bDI]
  ·have:=genus_le cs
   simp only [bAI,bAS,bAL,bSI,bMI,bML,bOI,bDI]
   congr 2
   exact H448 this
  ·refine rwl (cmp_eqI _ _) ?_
   have:maxL ([0]++L.map cornersP)=maxL (L.map cornersP):=by unfold maxL;simp
   refine rwl this (rwl g3 ?_);simp
 refine ⟨ρ10,hgo _ _ ?_⟩
 refine s_cons (x_asg (again_ev k3 hp (by exact Nat.le_trans (Nat.le_of_lt g2) (Nat.le_add_left 64 136)))) ?_
 refine rwl hρ4 ?_
 refine s_cons (x_ite (t:=false) (cond_ev hl h8 a1 a2 a4 hp g1 g2) rfl (fun q=>by cases q) fun Z=>s_nil) ?_
 refine s_cons (x_asg hide_ev) ?_
 refine rwl hρ5 ?_
 refine s_cons (x_asg (dress_ev hs hS hS5 b1.sums b4)) (s_cons (x_tupD (v_list vl_nil) (v_list vl_nil)) ?_)
 refine rwl hρ6 ?_
 refine s_cons (x_for (v_var d2) rfl e7) ?_
 refine s_cons (x_asg (fronts_ev w4 hmp)) (s_cons (x_asg (turned_ev ((lk_ne rfl).trans w4) hmp)) ?_)
 refine rwl hρ8 ?_
 refine s_cons (x_asg (v_call (vl_mes1 (v_var x1.row)) (phi_struck h8 (by exact Eq.symm hl▸Nat.le_of_ble_eq_true rfl)))) ?_
 refine rwl hρ9 ?_
 refine s_cons (x_asg gen) ?_
 refine rwl hρ10 ?_
 exact s_ret (x_ret fin)
end
end Mine
namespace Mine
open PySem
theorem pick_map {α β:Type} (f:α->β) (xs:List α) (lo hi st:Option Int):pick (xs.map f) lo hi st=(pick xs lo hi st).map f:=by
 unfold pick
 refine rwl (List.length_map _) (rwl List.map_filterMap ?_)
 congr 1
 funext i
 rw [List.getElem?_map]
theorem pick_len {α:Type} (xs:List α) (hl:xs.length<=63) {k:Nat} (hk:k<5):(pick xs (some k) (some 60) (some 5)).length<=12:=by
 have h1 : ∀ n<64,∀ k<5,(sliceIx (some ((k:Nat):Int)) (some 60) (some 5) n).length<=12:=by decide +kernel
 have h2:=h1 xs.length (by exact Nat.lt_succ_of_le hl) k hk
 exact Nat.le_trans (List.length_filterMap_le _ _) h2
theorem ints_map (ys:List Int):intsOf (ys.map PyData.int)=some ys:=by
 induction ys with
 | nil=>rfl
 | cons y r ih=>refine rwl List.map_cons ?_;unfold intsOf;refine rwl ih ?_;rfl
theorem small_mod (ys:List Int):smallInts (ys.map fun y=>y%1000000)=true:=by
 induction ys with
 | nil=>rfl
 | cons y r ih=>
  refine rwl List.map_cons ?_
  unfold smallInts
  refine rwl ih (rwl (Bool.and_true _) (rwl decide_eq_true_eq ?_))
  exact H231
noncomputable def startL:List Nat:=[200,600,1010,913,61450]
noncomputable def mSums:ME:=cmpn (md (add (.idx (vr "start") (vr "k")) (.blt (nm "sum") (cmpr (md (vr "x") (ci 1000000)) "x" (.sl (vr "script") (vr "k") (ci 60) (ci 5)) []))) (ci 1000000)) "k" (ci 5) []
section
variable {Φ B:Fns} {Γ:Gens} {ρ:Loc} {t:Option Tab}
theorem bb_sum (d:D):BB t (nm "sum") [d]=sumB d:=by rfl
theorem sums_ev {xs:List Int} (hl:xs.length<=63) (h1:lk ρ (nm "start") = .d (natsD startL)) (h2:lk ρ (nm "script") = .d (.list (xs.map .int))) :
  ∃ sK:Nat->Nat,(∀ k,sK k<1000000)/\ev Φ (BB t) mSums ρ=some (.list ((List.range 5).map fun k=> .int (sK k))):=by
 have hz:szL=100000:=rfl
 refine ⟨fun k=>(((startL.getD k 0:Nat)+preSum (valOf ((pick xs (some k) (some 60) (some 5)).map fun y=>y%1000000)) (pick xs (some k) (some 60) (some 5)).length)%1000000:Int).toNat,fun k=>by dsimp only;exact H232,?_⟩
 refine ev_mapR (n:=5) _ (v_c _) (by decide) fun i hi=> ?_
 generalize hρ1:upd (hide [nm "k"] ρ) (nm "k") (.d (.int i))=ρ1
 have k1:lk ρ1 (nm "start") = .d (natsD startL):=by refine lwr hρ1 ?_;exact (lk_ne rfl).trans (hide_d h1 rfl)
 have k2:lk ρ1 (nm "script") = .d (.list (xs.map .int)):=by refine lwr hρ1 ?_;exact (lk_ne rfl).trans (hide_d h2 rfl)
 have k3:lk ρ1 (nm "k") = .d (.int i):=lkS hρ1
 have hpl:=pick_len xs hl hi
 generalize hys:pick xs (some i) (some 60) (some 5)=ys at hpl
 have s1:ev Φ (BB t) (.sl (vr "script") (vr "k") (ci 60) (ci 5)) ρ1=some (.list (ys.map PyData.int)):=by
  refine v_sl (v_var k2) (v_var k3) (v_c _) (v_c _) ?_
  unfold slD
  simp only [partD,Option.bind_eq_bind,Option.bind_some]
  rw [if_pos ⟨by simp,by refine rwl (List.length_map _) ?_;exact t2 hl rfl⟩,pick_map,hys]
 have s2:ev Φ (BB t) (cmpr (md (vr "x") (ci 1000000)) "x" (.sl (vr "script") (vr "k") (ci 60) (ci 5)) []) ρ1=some (.list ((ys.map fun y=>y%1000000).map PyData.int)):=by
  refine (ev_mapT (as:=ys) (f:=PyData.int) (g:=fun y=> .int (y%1000000)) s1 rfl (by exact t2 hpl rfl) fun y hy=>v_bin (v_var lk_self) (v_c _) rfl).trans (by refine rwl List.map_map ?_;rfl)
 have s3:ev Φ (BB t) (.blt (nm "sum") (cmpr (md (vr "x") (ci 1000000)) "x" (.sl (vr "script") (vr "k") (ci 60) (ci 5)) [])) ρ1=some (.int (preSum (valOf (ys.map fun y=>y%1000000)) ys.length)):=by
  refine v_blt s2 ((bb_sum _).trans ?_)
  unfold sumB
  dsimp only
  refine rwl (ints_map _) (rwl (Option.bind_some _ _) (rwl (small_mod _) (rwl (List.length_map _) ?_)))
  exact rwl (if_pos (by simp;exact Nat.le_trans hpl (Nat.le_of_ble_eq_true rfl))) rfl
 refine v_bin (v_bin (v_idx (v_var k1) (v_var k3) (z:= .int (startL.getD i 0)) ?_) s3 (z:= .int ((startL.getD i 0:Nat)+preSum (valOf (ys.map fun y=>y%1000000)) ys.length)) rfl) (v_c _) ?_
 ·have hs:startL.length=5:=rfl
  rw [idx_nat (by refine rwl (List.length_map _) (rwl hs ?_);exact hi) (by refine rwl (List.length_map _) (rwl hs ?_);exact Eq.symm hz▸Nat.le_of_ble_eq_true rfl),List.getElem?_map,List.getD_eq_getElem?_getD,List.getElem?_eq_getElem (by refine rwl hs ?_;exact hi)];rfl
 ·simp only [bAI,bAS,bAL,bSI,bMI,bML,bOI,bDI,hys]
  refine rwl (if_pos (by decide)) ?_
  congr 2
  exact H237
end
noncomputable def Bal (cs:List Nat):Prop:= ∀ c,cs.count c=cs.count (inv c)
theorem bal_open : ∀ (cs op:List Nat),(∀ c,¬ (c∈op/\inv c∈op))->(∀ c,¬ (c∈cs.foldl openS op/\inv c∈cs.foldl openS op)) /\ ∀ c,((cs.foldl openS op).count c:Int)-(cs.foldl openS op).count (inv c)=(op.count c:Int)-op.count (inv c)+(cs.count c:Int)-cs.count (inv c)
 | [],op,h=>⟨h,fun c=>by simp⟩
 | x::cs,op,h=>by
  have hx:(∀ c,¬ (c∈openS op x/\inv c∈openS op x)) /\ ∀ c,((openS op x).count c:Int)-(openS op x).count (inv c)=(op.count c:Int)-op.count (inv c)+(if x=c then 1 else 0)-(if x=inv c then 1 else 0):=by
   unfold openS
   by_cases q:op.contains (inv x)=true
   ·refine rwl (if_pos q) ?_
    have hm:inv x∈op:=by simpa using q
    refine ⟨fun c Z9=>ea02 Z9 fun a b=>h c ⟨List.mem_of_mem_erase a,List.mem_of_mem_erase b⟩,fun c=> ?_⟩
    have hp:0<op.count (inv x):=List.count_pos_iff.mpr hm
    refine rwl List.count_erase (rwl List.count_erase ?_)
    by_cases c1:x=c
    ·subst c1
     have : ¬ inv x=x:=inv_ne x
     have h2 : ¬ x=inv x:=fun z=>inv_ne x z.symm
     have n1 : ¬ x=inv x:=h2
     simp only [if_pos,if_neg this,if_neg n1,beq_self_eq_true,beq_eq_false_iff_ne.mpr this,beq_eq_false_iff_ne.mpr n1]
     simp
     exact H449 hp
    ·by_cases c2:x=inv c
     ·have e:inv x=c:=by exact rwl c2 (rwl (inv_inv _) rfl)
      have n1 : ¬ c=inv c:=fun z=>inv_ne c z.symm
      refine rwl (if_neg c1) (rwl (if_pos c2) ?_)
      have b1:(inv x==c)=true:=by refine rwl e ?_;simp
      have b2:(inv x==inv c)=false:=by refine rwl e ?_;exact beq_eq_false_iff_ne.mpr n1
      rw [e] at hp
      simp [b1,b2]
      exact H450 hp
     ·have b1 : ¬ inv x=c:=fun z=>c2 (by exact lwr z (rwl (inv_inv _) rfl))
      have b2 : ¬ inv x=inv c:=fun z=>c1 (by exact lwr (inv_inv x) (rwl z (rwl (inv_inv _) rfl)))
      refine rwl (if_neg c1) (rwl (if_neg c2) ?_)
      simp [b1,b2]
   ·refine rwl (if_neg q) ?_
    have hm:inv x∉op:=by simpa using q
    refine ⟨fun c Z9=>ea02 Z9 fun a b=> ?_,fun c=> ?_⟩
    ·rcases List.mem_cons.mp a with rfl|a<;>rcases List.mem_cons.mp b with b|b
     ·exact inv_ne _ b
     ·exact hm b
     ·exact hm (by refine lwr b (rwl (inv_inv _) ?_);exact a)
     ·exact h c ⟨a,b⟩
    ·refine rwl List.count_cons (rwl List.count_cons ?_)
     by_cases c1:x=c
     ·subst c1
      have n1 : ¬ x=inv x:=fun z=>inv_ne x z.symm
      simp [n1]
      exact H451
     ·by_cases c2:x=inv c
      ·refine rwl (if_neg c1) (rwl (if_pos c2) ?_)
       simp [c1,c2,inv_ne]
       exact Eq.symm (Int.sub_sub (↑_:Int) (↑_:Int) 1)
      ·refine rwl (if_neg c1) (rwl (if_neg c2) ?_)
       simp [c1,c2]
  refine ea02 (bal_open cs (openS op x) hx.1) fun h1 h2=> ?_
  refine rwl List.foldl_cons ?_
  refine ⟨h1,fun c=> ?_⟩
  refine rwl (h2 c) (rwl (hx.2 c) (rwl List.count_cons (rwl List.count_cons ?_)))
  simp only [beq_iff_eq]
  split<;>split<;>first|exact H452 1 1|exact H452 1 0|exact H452 0 1|exact H452 0 0
theorem bal_zero {cs:List Nat} (h:Bal cs):(cs.foldl openS []).length=0:=by
 refine ea02 (bal_open cs [] fun c Z9=>ea02 Z9 fun a Z=>by cases a) fun h1 h2=> ?_
 rcases e:cs.foldl openS [] with _|⟨x,r⟩
 ·rfl
 ·exfalso
  have hx:x∈cs.foldl openS []:=by refine rwl e ?_;exact List.mem_cons_self
  have hp:0<(cs.foldl openS []).count x:=List.count_pos_iff.mpr hx
  have:=h2 x
  rw [h x] at this
  simp only [List.count_nil] at this
  have hq:0<(cs.foldl openS []).count (inv x):=by exact H453 this hp
  exact h1 x ⟨hx,List.count_pos_iff.mp hq⟩
end Mine
namespace Mine
open PySem
theorem str_idx {x:String} {l:List Nat} (hx:nm x=mkS l) {i:Nat} (h:i<l.length) (hl:l.length<=szL):idxD (.str (nm x)) (.int i)=some (.str (mkS [l.getD i 0])):=by
 have hz:szL=100000:=rfl
 refine rwl hx ?_
 unfold idxD
 dsimp only
 refine rwl (mkS_len _) (rwl (if_pos ⟨hl,by exact Int.NonNeg.mk (_+Nat.succ 9223372036854775807),by exact Int.lt_trans (Int.ofNat_lt.2 h) (i63 hl rfl)⟩) (rwl (seqIx_nat h) ?_))
 have:l[i]? = some (l.getD i 0):=by refine rwl List.getD_eq_getElem?_getD (rwl (List.getElem?_eq_getElem h) ?_);rfl
 have h2:(mkS l).cps[i]? = some (l.getD i 0):=by refine rwl List.getElem?_toArray ?_;exact this
 show ((mkS l).cps[i]?).map (fun c=>PyData.str ⟨#[c]⟩)=_
 refine rwl h2 ?_;rfl
noncomputable def letK (k x:Nat):Nat:=[0,2,2*(x%3),2*(x%4)].getD k 0
theorem letK_ok (k x:Nat) (hk:k<4):letK k x<8/\letK k x%2=0:=by
 unfold letK
 match k,hk with
 | 0,_=>simp
 | 1,_=>simp
 | 2,_=>simp;exact H317 (ml rfl rfl)
 | 3,_=>simp;exact H317 (ml rfl rfl)
noncomputable def mLetter:ME:= .idx (li [cs "a", cs "b", .idx (cs "abc") (md (vr "x") (ci 3)),.idx (cs "abcd") (md (vr "x") (ci 4))]) (vr "k")
section
variable {Φ B:Fns} {Γ:Gens} {ρ:Loc} {k x:Nat} {t:Option Tab}
theorem L_even {a:Nat} (h:a<4):L (2*a)=mkS [97+a]:=by
 have : ∀ a<4,L (2*a)=mkS [97+a]:=by decide +kernel
 exact this a h
theorem letter_ev (hk:lk ρ (nm "k") = .d (.int k)) (hx:lk ρ (nm "x") = .d (.int x)) (h4:k<4):ev Φ B mLetter ρ=some (LD (letK k x)):=by
 have i3:ev Φ B (.idx (cs "abc") (md (vr "x") (ci 3))) ρ=some (LD (2*(x%3))):=by
  refine v_idx (v_c _) (v_bin (v_var hx) (v_c (.int ((3:Nat):Int))) (bin_mod 3 (by decide))) ?_
  refine rwl (str_idx (l:=[97,98,99]) rfl (by simp;exact ml rfl rfl) (by decide)) ?_;rw [LD];refine rwl (L_even (by exact ml rfl rfl)) ?_
  have : ∀ a<3,([97,98,99]:List Nat).getD a 0=97+a:=by decide
  exact rwl (this _ (by exact ml rfl rfl)) rfl
 have i4:ev Φ B (.idx (cs "abcd") (md (vr "x") (ci 4))) ρ=some (LD (2*(x%4))):=by
  refine v_idx (v_c _) (v_bin (v_var hx) (v_c (.int ((4:Nat):Int))) (bin_mod 4 (by decide))) ?_
  refine rwl (str_idx (l:=[97,98,99,100]) rfl (by simp;exact ml rfl rfl) (by decide)) ?_;rw [LD];refine rwl (L_even (by exact ml rfl rfl)) ?_
  have : ∀ a<4,([97,98,99,100]:List Nat).getD a 0=97+a:=by decide
  exact rwl (this _ (by exact ml rfl rfl)) rfl
 have ia:ev Φ B (cs "a") ρ=some (LD 0):=by
  have:nm "a" = L 0:=rfl
  show some (PyData.str (nm "a"))=_
  exact rwl this rfl
 have ib:ev Φ B (cs "b") ρ=some (LD 2):=by
  have:nm "b" = L 2:=rfl
  show some (PyData.str (nm "b"))=_
  exact rwl this rfl
 refine v_idx (v_list (vl_cons ia (vl_cons ib (vl_mes2 i3 i4)))) (v_var hk) ?_
 refine rwl (idx_nat (by simp;exact h4) (by simp [szL])) ?_
 match k,h4 with
 | 0,_=>rfl
 | 1,_=>rfl
 | 2,_=>rfl
 | 3,_=>rfl
noncomputable def pairK (k x:Nat):List Nat:=if x/12%2 != 0 then [letK k x+1,letK k x] else [letK k x,letK k x+1]
noncomputable def mPair:ME:= .ite (md (dv (vr "x") (ci 12)) (ci 2)) (li [upp (vr "letter"),vr "letter"]) (li [vr "letter", upp (vr "letter")])
theorem pair_ev (hx:lk ρ (nm "x") = .d (.int x)) (hl:lk ρ (nm "letter") = .d (LD (letK k x))) (h4:k<4) (hx6:x<1000000):ev Φ B mPair ρ=some (rowS (pairK k x)):=by
 refine ea02 (letK_ok k x h4) fun h8 he=> ?_
 have u1:ev Φ B (upp (vr "letter")) ρ=some (LD (letK k x+1)):=v_met (v_var hl) ((upp_L h8).trans (by refine rwl he ?_;rfl))
 refine v_ite (t:=x/12%2 != 0) (v_bin (v_bin (v_var hx) (v_c (.int ((12:Nat):Int))) (bin_div 12 (by decide) (by exact Nat.lt_of_lt_of_le hx6 (Nat.le_of_ble_eq_true rfl)))) (v_c (.int ((2:Nat):Int))) (bin_mod 2 (by decide))) ?_ (fun q=> ?_) fun q=> ?_
 ·show some (((x/12%2:Nat):Int) != 0)=_
  congr 1
  by_cases z:x/12%2=0
  ·refine rwl z ?_;rfl
  ·have:x/12%2=1:=by exact Nat.le_antisymm (Nat.le_of_lt_succ (ml rfl rfl)) (Nat.pos_of_ne_zero z)
   refine rwl this ?_;rfl
 ·unfold pairK;refine rwl (if_pos q) ?_;exact v_list (vl_mes2 u1 (v_var hl))
 ·unfold pairK;rw [if_neg (by refine rwl q ?_;decide)];exact v_list (vl_mes2 (v_var hl) u1)
theorem pairK_inv (k x:Nat) (h4:k<4) : ∃ p,p<8/\pairK k x=[p,inv p]:=by
 refine ea02 (letK_ok k x h4) fun h8 he=> ?_
 unfold pairK
 split
 ·refine ⟨letK k x+1,by exact H251 he h8,?_⟩
  unfold inv
  refine rwl (if_neg (by exact H454 he)) ?_;rfl
 ·refine ⟨letK k x,h8,?_⟩
  unfold inv
  exact rwl (if_pos he) rfl
noncomputable def insP (cs:List Nat) (i c:Nat):List Nat:=cs.take i++c::cs.drop i
theorem ins_len (cs:List Nat) (i c:Nat):(insP cs i c).length=cs.length+1:=by
 unfold insP;refine rwl List.length_append (rwl List.length_cons (rwl List.length_take (rwl List.length_drop ?_)));exact H455
theorem ins_lt {cs:List Nat} (h:lt8s cs) (i:Nat) {c:Nat} (hc:c<8):lt8s (insP cs i c):=
 lt8s_app (lt8s_take h i) fun d hd=>(List.mem_cons.mp hd).elim (fun z=>z▸hc) fun z=>h d (List.mem_of_mem_drop z)
theorem ins_count (cs:List Nat) (i c d:Nat):(insP cs i c).count d=cs.count d+(if c=d then 1 else 0):=by
 unfold insP
 refine rwl List.count_append (rwl List.count_cons ?_)
 have:cs.count d=(cs.take i).count d+(cs.drop i).count d:=by exact lwr List.count_append (rwl (List.take_append_drop _ _) rfl)
 refine rwl this ?_
 by_cases q:c=d<;>simp [q]<;>exact Eq.refl (_+(_+1))
theorem ins_bal {cs:List Nat} (h:Bal cs) (i j p:Nat):Bal (insP (insP cs i p) j (inv p)):=fun c=>by
 refine rwl (ins_count _ _ _ _) (rwl (ins_count _ _ _ _) (rwl (ins_count _ _ _ _) (rwl (ins_count _ _ _ _) (rwl (h c) ?_))))
 by_cases c1:p=c
 ·subst c1
  have n1 : ¬ inv p=p:=inv_ne p
  have n2 : ¬ p=inv p:=fun z=>n1 z.symm
  simp [n1,n2]
 ·by_cases c2:inv p=c
  ·subst c2
   have n1 : ¬ p=inv p:=fun z=>inv_ne p z.symm
   have n2:inv (inv p)=p:=inv_inv p
   have n3 : ¬ inv p=p:=inv_ne p
   simp [n1,n2,n3]
  ·have n1 : ¬ p=inv c:=fun z=>c2 (by exact rwl z (rwl (inv_inv _) rfl))
   have n2 : ¬ inv p=inv c:=fun z=>c1 (by exact lwr (inv_inv p) (rwl z (rwl (inv_inv _) rfl)))
   simp [c1,c2,n1,n2]
theorem bb_len (d:D):BB t (nm "len") [d]=lenB d:=by rfl
theorem ins_ev {cs':List Nat} {d c:Nat} {e:ME} (hr:lk ρ (nm "row") = .o (cs'.map LD)) (hx:lk ρ (nm "x") = .d (.int x)) (hd:0<d) (hx6:x<1000000) (he:ev Φ (BB t) e ρ=some (LD c)) (hl:cs'.length<=100):ex Φ (BB t) Γ (.ins (nm "row") (md (dv (vr "x") (ci d)) (add (len' (ow "row")) (ci 1))) e) ρ=some (setO ρ (nm "row") ((insP cs' (x/d%(cs'.length+1)) c).map LD),none):=by
 have hz:szL=100000:=rfl
 have hi:ev Φ (BB t) (md (dv (vr "x") (ci d)) (add (len' (ow "row")) (ci 1))) ρ=some (.int (x/d%(cs'.length+1):Nat)):=by
  refine v_bin (v_bin (v_var hx) (v_c (.int (d:Int))) (bin_div d hd (by exact Nat.lt_of_lt_of_le hx6 (Nat.le_of_ble_eq_true rfl)))) (v_bin (v_bltO hr ((bb_len _).trans ?_)) (v_c (.int ((1:Nat):Int))) bin_add) (bin_mod _ (by exact Nat.zero_lt_succ _))
  unfold lenB
  dsimp only
  rw [if_pos (by refine rwl (List.length_map _) ?_;exact t2 hl rfl),List.length_map]
 have hm:x/d%(cs'.length+1)<cs'.length+1:=Nat.mod_lt _ (by exact Nat.zero_lt_succ _)
 refine (x_ins hi he hr (by refine rwl (List.length_map _) ?_;exact Nat.le_of_lt_succ hm) (by refine rwl (List.length_map _) ?_;exact Nat.le_trans hl (Nat.le_of_ble_eq_true rfl))).trans ?_
 unfold insP
 exact rwl List.map_append (rwl List.map_cons (rwl List.map_take (rwl List.map_drop rfl)))
noncomputable def mRowB:MSs:=mss [
  .asg (nm "x") (.idx (vr "sums") (vr "k")),
  .asg (nm "letter") mLetter,
  .asg (nm "pair") mPair,
  .ins (nm "row") (md (dv (vr "x") (ci 24)) (add (len' (ow "row")) (ci 1))) (.idx (vr "pair") (ci 0)),
  .ins (nm "row") (md (dv (vr "x") (ci 200)) (add (len' (ow "row")) (ci 1))) (.idx (vr "pair") (ci 1))]
theorem phi_row {n:Nat} {sK:Nat->Nat} (hs : ∀ k,sK k<1000000) : ∃ cs',cs'.length=8/\lt8s cs'/\Bal cs'/\Phi (n+1) (nm "_law_row") [.list ((List.range 5).map fun k=> .int (sK k))]=some (rowS cs'):=by
 have hz:szL=100000:=rfl
 generalize hS:(List.range 5).map (fun k=>PyData.int (sK k))=S
 have e:Phi (n+1) (nm "_law_row") [.list S]=(exs (Phi n) (BB none) GG pRow [(nm "sums", .d (.list S))]).bind (·.2):=by rfl
 obtain ⟨ρ',e1,j1,j2,j3,j4,j5,_⟩:=runFor_T (tg:= .n (nm "k")) (f:=fun (i:Nat)=>PyData.int i) (F:=exs (Phi n) (BB none) GG mRowB)
  (fun b k=>let c1:=insP b (sK k/24%(b.length+1)) ((pairK k (sK k)).getD 0 0);insP c1 (sK k/200%(c1.length+1)) ((pairK k (sK k)).getD 1 0))
  (fun b rest ρ=>lk ρ (nm "row") = .o (b.map LD)/\lk ρ (nm "sums") = .d (.list S)/\lt8s b/\Bal b/\b.length+2*rest.length=8/\(∀ k∈rest,k<4))
  (fun b k rest ρ Z9=>ea06 Z9 fun j1 j2 j3 j4 j5 j6=>by
   have hk:=j6 k List.mem_cons_self
   simp only [List.length_cons] at j5
   obtain ⟨p,hp,hpk⟩:=pairK_inv k (sK k) hk
   generalize hρ0:upd ρ (nm "k") (.d (.int k))=ρ0
   have a1:lk ρ0 (nm "k") = .d (.int k):=lkS hρ0
   have a2:lk ρ0 (nm "sums") = .d (.list S):=by refine lwr hρ0 ?_;exact (lk_ne rfl).trans j2
   have a3:lk ρ0 (nm "row") = .o (b.map LD):=by refine lwr hρ0 ?_;exact (lk_ne rfl).trans j1
   have hidx:idxD (.list S) (.int k)=some (.int (sK k)):=by
    rw [<- hS,idx_nat (by refine rwl (List.length_map _) (rwl List.length_range ?_);exact Nat.lt_succ_of_lt hk) (by refine rwl (List.length_map _) (rwl List.length_range ?_);exact Eq.symm hz▸Nat.le_of_ble_eq_true rfl),List.getElem?_map,List.getElem?_range (by exact Nat.lt_succ_of_lt hk)];rfl
   generalize hρ1:upd ρ0 (nm "x") (.d (.int (sK k)))=ρ1
   have b1:lk ρ1 (nm "k") = .d (.int k):=by refine lwr hρ1 ?_;exact (lk_ne rfl).trans a1
   have b2:lk ρ1 (nm "sums") = .d (.list S):=by refine lwr hρ1 ?_;exact (lk_ne rfl).trans a2
   have b3:lk ρ1 (nm "row") = .o (b.map LD):=by refine lwr hρ1 ?_;exact (lk_ne rfl).trans a3
   have b4:lk ρ1 (nm "x") = .d (.int (sK k)):=lkS hρ1
   generalize hρ2:upd (upd ρ1 (nm "letter") (.d (LD (letK k (sK k))))) (nm "pair") (.d (rowS (pairK k (sK k))))=ρ2
   have c1:lk ρ2 (nm "sums") = .d (.list S):=by refine lwr hρ2 ?_;exact (lk_ne rfl).trans ((lk_ne rfl).trans b2)
   have c2:lk ρ2 (nm "row") = .o (b.map LD):=by refine lwr hρ2 ?_;exact (lk_ne rfl).trans ((lk_ne rfl).trans b3)
   have c3:lk ρ2 (nm "x") = .d (.int (sK k)):=by refine lwr hρ2 ?_;exact (lk_ne rfl).trans ((lk_ne rfl).trans b4)
   have c4:lk ρ2 (nm "pair") = .d (rowS [p,inv p]):=by refine lwr hρ2 (lwr hpk ?_);exact lk_self
   have p0 : ∀ {ρ:Loc},lk ρ (nm "pair") = .d (rowS [p,inv p])->ev (Phi n) (BB none) (.idx (vr "pair") (ci 0)) ρ=some (LD p):=fun h=>v_idx (v_var h) (v_c _) (by rfl)
   have p1 : ∀ {ρ:Loc},lk ρ (nm "pair") = .d (rowS [p,inv p])->ev (Phi n) (BB none) (.idx (vr "pair") (ci 1)) ρ=some (LD (inv p)):=fun h=>v_idx (v_var h) (v_c _) (by rfl)
   have i1:=ins_ev (Γ:=GG) (d:=24) c2 c3 (by decide) (hs k) (p0 c4) (by exact t2 (Nat.le_of_lt (H52 j5)) rfl)
   generalize hb1:insP b (sK k/24%(b.length+1)) p=bb at i1
   have hbl:bb.length=b.length+1:=by refine lwr hb1 ?_;exact ins_len _ _ _
   generalize hρ3:setO ρ2 (nm "row") (bb.map LD)=ρ3 at i1
   have d1:lk ρ3 (nm "row") = .o (bb.map LD):=by refine lwr hρ3 ?_;exact lk_setO
   have d2:lk ρ3 (nm "x") = .d (.int (sK k)):=by refine lwr hρ3 ?_;exact lk_setO_ne c3 rfl
   have d3:lk ρ3 (nm "pair") = .d (rowS [p,inv p]):=by refine lwr hρ3 ?_;exact lk_setO_ne c4 rfl
   have d4:lk ρ3 (nm "sums") = .d (.list S):=by refine lwr hρ3 ?_;exact lk_setO_ne c1 rfl
   have i2:=ins_ev (Γ:=GG) (d:=200) d1 d2 (by decide) (hs k) (p1 d3) (by exact t2 (Nat.le_trans (Nat.le_of_eq hbl) (H52 j5)) rfl)
   refine ⟨ρ0,setO ρ3 (nm "row") ((insP bb (sK k/200%(bb.length+1)) (inv p)).map LD),by refine lwr hρ0 ?_;rfl,?_,?_,lk_setO_ne d4 rfl,?_,?_,?_,fun q hq=>j6 q (List.mem_cons_of_mem _ hq)⟩
   ·refine s_cons (x_asg (v_idx (v_var a2) (v_var a1) hidx)) ?_
    refine rwl hρ1 ?_
    refine s_cons (x_asg (letter_ev b1 b4 hk)) (s_cons (x_asg (pair_ev (k:=k) ((lk_ne rfl).trans b4) lk_self hk (hs k))) ?_)
    refine rwl hρ2 ?_
    exact s_cons i1 (s_last i2)
   ·refine rwl lk_setO (rwl hpk (lwr hb1 ?_));rfl
   ·refine rwl hpk ?_
    show lt8s (insP (insP b _ p) _ (inv p))
    exact ins_lt (ins_lt j3 _ hp) _ (inv_lt hp)
   ·refine rwl hpk ?_
    exact ins_bal j4 _ _ p
   ·show (insP (insP b _ _) _ _).length+_=8
    refine rwl (ins_len _ _ _) (rwl (ins_len _ _ _) ?_);exact H456 j5) (List.range 4) [] (upd [(nm "sums", .d (.list S))] (nm "row") (.o [])) ⟨by rfl,by rfl,(fun c hc=>by cases hc),(fun c=>rfl),by decide,fun k hk=>List.mem_range.mp hk⟩
 generalize hF:List.foldl _ ([]:List Nat) (List.range 4)=Fin8 at j1 j3 j4 j5
 refine ⟨Fin8,by simpa using j5,j3,j4,?_⟩
 refine rwl e ?_
 have t1:exs (Phi n) (BB none) GG pRow [(nm "sums", .d (.list S))]=some (ρ',some (rowS Fin8)):=by
  refine s_cons (x_asgO (v_list vl_nil)) (s_cons (x_forR (n:=4) (v_c _) (by decide) ?_) (s_ret (x_retO j1)))
  refine rwl (rngD_eq _) ?_;exact e1
 refine rwl t1 ?_;rfl
end
end Mine
namespace Mine
open PySem
noncomputable def hideQ:List (List Tk):=[[],[.s (.two 41)],[.q [.one 126,.one 40]],[.s (.two 126)],[.q [.two 34,.one 41]],[.s (.two 34)],[.s (.two 40)],[.s (.two 92)]]
noncomputable def leafT (c:Nat) (first:Nat) (back:Bool) (mark:Nat):List Tk:=
 let tl:List Tk:=if ((c%2==1) != back) then [.s (.one 126)] else []
 let le:List Tk:=[.s (.one (97+c/2))]
 if first%2=1 then tl++le++hideQ.getD (mark%8) [] else hideQ.getD (mark%8) []++tl++le
noncomputable def tks (cs:List Nat) (s:Nat):Nat->Nat->Nat->Bool->List Tk
 | 0,_,_,_=>[]
 | fuel+1,first,last,back=>
  let mark:=s/(first+2*last)
  if last=first+1 then leafT (cs.getD first 0) first back mark else
  let flip:=mark/8%2==1
  let cut:=first+1+mark%(last-first-1)
  let b:=back != flip
  let one:=tks cs s fuel first cut b
  let two:=tks cs s fuel cut last b
  (if flip then [.s (.one 126),.s (.one 40)] else [.s (.one 40)])++(if b then two++[.s (.one 42)]++one else one++[.s (.one 42)]++two)++[.s (.one 41)]
noncomputable abbrev twoD (T:List Tk):D:= .list [.str (mkS (txt T)),.str (mkS (outT T))]
theorem outT_app (a b:List Tk):outT (a++b)=outT a++outT b:=by unfold outT;exact rwl List.flatMap_append rfl
theorem hideQ_len : ∀ i<8,(txt (hideQ.getD i [])).length<=5:=by decide
theorem leaf_len (c first:Nat) (back:Bool) (mark:Nat):(txt (leafT c first back mark)).length<=8:=by
 have h:=hideQ_len (mark%8) (by exact ml rfl rfl)
 have h1:(txt (if ((c%2==1) != back)=true then [Tk.s (.one 126)] else [])).length<=1:=by split<;>decide
 have h2:(txt [Tk.s (.one (97+c/2))]).length=1:=rfl
 unfold leafT
 dsimp only
 split<;>simp only [txt_app,List.length_append]<;>first|exact H457 h h1 h2|exact H514 h h1 h2
theorem tks_len (cs:List Nat) (s:Nat) : ∀ (fuel first last:Nat) (back:Bool),first<last->(txt (tks cs s fuel first last back)).length+4<=12*(last-first)
 | 0,first,last,back,h=>by unfold tks;show 0+4<=_;exact H458 h
 | fuel+1,first,last,back,h=>by
  unfold tks
  dsimp only
  split
  ·have:=leaf_len (cs.getD first 0) first back (s/(first+2*last))
   exact H262 this (by assumption)
  ·rename_i hne
   have hm:s/(first+2*last)%(last-first-1)<last-first-1:=Nat.mod_lt _ (by exact H263 h hne)
   generalize s/(first+2*last)%(last-first-1)=q at hm
   generalize (s/(first+2*last)/8%2==1)=flip
   have i1:=tks_len cs s fuel first (first+1+q) (back != flip) (by exact Nat.le_add_right _ _)
   have i2:=tks_len cs s fuel (first+1+q) last (back != flip) (by exact Nat.add_lt_of_lt_sub' hm)
   have h1:(txt (if flip=true then [Tk.s (.one 126),Tk.s (.one 40)] else [Tk.s (.one 40)])).length<=2:=by split<;>decide
   have h2:(txt [Tk.s (.one 42)]).length=1:=rfl
   have h3:(txt [Tk.s (.one 41)]).length=1:=rfl
   generalize (if flip=true then [Tk.s (.one 126),Tk.s (.one 40)] else [Tk.s (.one 40)])=pre at h1 ⊢
   split<;>simp only [txt_app,List.length_append]<;>first|exact G501 h1 h2 h3 i2 i1 (Nat.le_trans (Nat.le_succ _) (Nat.le_add_right _ _)) (Nat.le_of_lt (s1 hm))|exact G502 h1 h2 h3 i2 i1 (Nat.le_trans (Nat.le_succ _) (Nat.le_add_right _ _)) (Nat.le_of_lt (s1 hm))
section
variable {Φ B:Fns} {Γ:Gens} {ρ:Loc} {t:Option Tab} {cs':List Nat} {s first last mark c:Nat} {back flip:Bool}
noncomputable def hideQD:D:= .list (hideQ.map fun T=> .tuple [.str (mkS (txt T)),.str (mkS (outT T))])
theorem pHide_ev:ev Φ B pHide ρ=some hideQD:=by rfl
theorem bin_addS {a b:List Nat} (h:a.length+b.length<=szL):binD .Add (.str (mkS a)) (.str (mkS b))=some (.str (mkS (a++b))):=by
 simp only [bAI,bAS,bAL,bSI,bMI,bML,bOI,bDI]
 rw [if_pos (by refine rwl (mkS_len _) (rwl (mkS_len _) ?_);exact h),mkS_app]
theorem bin_sub {a b:Nat} (h:b<=a):binD .Sub (.int a) (.int b)=some (.int (a-b:Nat)):=by
 simp only [bAI,bAS,bAL,bSI,bMI,bML,bOI,bDI]
 congr 2
 exact Eq.symm (Int.ofNat_sub h)
noncomputable def mLeaf:ME:=cmpr (.ite (md (vr "first") (ci 2)) (add (add (vr "tilde") (vr "letter")) (vr "x")) (add (add (vr "x") (vr "tilde")) (vr "letter"))) "x" (.idx (vr "hide") (md (vr "mark") (ci 8))) []
theorem leaf_ev (h1:lk ρ (nm "first") = .d (.int first)) (h2:lk ρ (nm "mark") = .d (.int mark)) (h3:lk ρ (nm "hide") = .d hideQD) (h4:lk ρ (nm "letter") = .d (.str (mkS [97+c/2]))) (h5:lk ρ (nm "tilde") = .d (.str (mkS (if ((c%2==1) != back) then [126] else [])))):ev Φ B mLeaf ρ=some (twoD (leafT c first back mark)):=by
 have hz:szL=100000:=rfl
 generalize hT:hideQ.getD (mark%8) []=T
 have hl8:hideQ.length=8:=rfl
 have hTl:(txt T).length<=5:=by refine lwr hT ?_;exact hideQ_len _ (by exact ml rfl rfl)
 have hTo:=out_le T
 have i1:ev Φ B (.idx (vr "hide") (md (vr "mark") (ci 8))) ρ=some (.tuple [.str (mkS (txt T)),.str (mkS (outT T))]):=by
  refine v_idx (v_var h3) (v_bin (v_var h2) (v_c (.int ((8:Nat):Int))) (bin_mod 8 (by decide))) ?_
  unfold hideQD
  rw [idx_nat (by refine rwl (List.length_map _) (rwl hl8 ?_);exact ml rfl rfl) (by refine rwl (List.length_map _) (rwl hl8 ?_);exact Eq.symm hz▸Nat.le_of_ble_eq_true rfl),List.getElem?_map]
  have:hideQ[mark%8]? = some T:=by rw [<- hT,List.getD_eq_getElem?_getD,List.getElem?_eq_getElem (by refine rwl hl8 ?_;exact ml rfl rfl)];rfl
  refine rwl this ?_;rfl
 generalize hti:(if ((c%2==1) != back)=true then [126] else [])=ti at h5
 have htl:ti.length<=1:=by refine lwr hti ?_;split<;>decide
 have key : ∀ X:List Nat,X.length<=5->ev Φ B (.ite (md (vr "first") (ci 2)) (add (add (vr "tilde") (vr "letter")) (vr "x")) (add (add (vr "x") (vr "tilde")) (vr "letter"))) (upd (hide [nm "x"] ρ) (nm "x") (.d (.str (mkS X))))=some (.str (mkS (if first%2=1 then ti++[97+c/2]++X else X++ti++[97+c/2]))):=by
  intro X hX
  have k1 : ∀ {y:Str} {d:D},(nm "x" == y)=false->[nm "x"].contains y=false->lk ρ y = .d d->lk (upd (hide [nm "x"] ρ) (nm "x") (.d (.str (mkS X)))) y = .d d:=fun q1 q2 q=>(lk_ne q1).trans (hide_d q q2)
  refine v_ite (t:=(first%2==1)) (v_bin (v_var (k1 rfl rfl h1)) (v_c (.int ((2:Nat):Int))) (bin_mod 2 (by decide))) ?_ (fun q=> ?_) fun q=> ?_
  ·show some (((first%2:Nat):Int) != 0)=_
   congr 1
   by_cases z:first%2=0
   ·refine rwl z ?_;rfl
   ·have:first%2=1:=by exact Nat.le_antisymm (Nat.le_of_lt_succ (ml rfl rfl)) (Nat.pos_of_ne_zero z)
    refine rwl this ?_;rfl
  ·rw [beq_iff_eq] at q
   refine rwl (if_pos q) ?_
   exact v_bin (v_bin (v_var (k1 rfl rfl h5)) (v_var (k1 rfl rfl h4)) (bin_addS (by simp;exact t2 (Nat.lt_succ_of_le htl) rfl))) (v_var lk_self) (bin_addS (by simp;exact t2 (H370 (Nat.add_le_add_left hX _) (Nat.lt_succ_of_le htl)) rfl))
  ·rw [beq_eq_false_iff_ne] at q
   refine rwl (if_neg q) ?_
   exact v_bin (v_bin (v_var lk_self) (v_var (k1 rfl rfl h5)) (bin_addS (by exact t2 (Nat.add_le_add hX htl) rfl))) (v_var (k1 rfl rfl h4)) (bin_addS (by simp;exact H459 hX htl rfl))
 refine (ev_mapT (as:=[txt T,outT T]) (f:=fun X=> .str (mkS X)) (g:=fun X=> .str (mkS (if first%2=1 then ti++[97+c/2]++X else X++ti++[97+c/2]))) i1 rfl (by simp [szL]) fun X hX=>key X ?_).trans ?_
 ·simp only [List.mem_cons,List.not_mem_nil,or_false] at hX
  rcases hX with rfl|rfl<;>(first|exact hTl|exact Nat.le_trans hTo hTl)
 ·have e1:txt (if ((c%2==1) != back)=true then [Tk.s (.one 126)] else [])=ti:=by refine lwr hti ?_;split<;>rfl
  have e2:outT (if ((c%2==1) != back)=true then [Tk.s (.one 126)] else [])=ti:=by refine lwr hti ?_;split<;>rfl
  have e3:txt [Tk.s (.one (97+c/2))]=[97+c/2]:=rfl
  have e4:outT [Tk.s (.one (97+c/2))]=[97+c/2]:=rfl
  unfold leafT
  dsimp only
  refine rwl hT ?_
  by_cases q:first%2=1
  ·refine rwl (if_pos q) ?_
   simp only [List.map_cons,List.map_nil,if_pos q,twoD,txt_app,outT_app,e1,e2,e3,e4]
  ·refine rwl (if_neg q) ?_
   simp only [List.map_cons,List.map_nil,if_neg q,twoD,txt_app,outT_app,e1,e2,e3,e4]
noncomputable def mNode:ME:=cmpr (add (add (add (add (.ite (vr "flip") (cs "~(") (cs "(")) (.idx (vr "one") (vr "n"))) (cs "*")) (.idx (vr "two") (vr "n"))) (cs ")")) "n" (tu [ci 0,ci 1]) []
theorem node_ev {T1 T2:List Tk} (h1:lk ρ (nm "flip") = .d (.bool flip)) (h2:lk ρ (nm "one") = .d (twoD T1)) (h3:lk ρ (nm "two") = .d (twoD T2)) (l1:(txt T1).length<=200) (l2:(txt T2).length<=200) :
  ev Φ B mNode ρ=some (twoD ((if flip then [.s (.one 126),.s (.one 40)] else [.s (.one 40)])++(T1++[.s (.one 42)]++T2)++[.s (.one 41)])):=by
 have hz:szL=100000:=rfl
 have o1:=out_le T1
 have o2:=out_le T2
 generalize hf:(if flip=true then [126,40] else [40])=fl
 have hfl:fl.length<=2:=by refine lwr hf ?_;split<;>decide
 have key : ∀ (i:Nat) (X Y:List Nat),i<2->X.length<=200->Y.length<=200->idxD (twoD T1) (.int i)=some (.str (mkS X))->idxD (twoD T2) (.int i)=some (.str (mkS Y)) ->
   ev Φ B (add (add (add (add (.ite (vr "flip") (cs "~(") (cs "(")) (.idx (vr "one") (vr "n"))) (cs "*")) (.idx (vr "two") (vr "n"))) (cs ")")) (upd (hide [nm "n"] ρ) (nm "n") (.d (.int i)))=some (.str (mkS (fl++X++[42]++Y++[41]))):=by
  intro i X Y hi hX hY e1 e2
  have k1 : ∀ {y:Str} {d:D},(nm "n" == y)=false->[nm "n"].contains y=false->lk ρ y = .d d->lk (upd (hide [nm "n"] ρ) (nm "n") (.d (.int i))) y = .d d:=fun q1 q2 q=>(lk_ne q1).trans (hide_d q q2)
  have c1:nm "~(" = mkS [126,40]:=rfl
  have c2:nm "(" = mkS [40]:=rfl
  have c3:nm "*" = mkS [42]:=rfl
  have c4:nm ")" = mkS [41]:=rfl
  have p0:ev Φ B (.ite (vr "flip") (cs "~(") (cs "(")) (upd (hide [nm "n"] ρ) (nm "n") (.d (.int i)))=some (.str (mkS fl)):=by
   refine v_ite (t:=flip) (v_var (k1 rfl rfl h1)) rfl (fun q=> ?_) fun q=> ?_
   ·refine lwr hf (rwl (if_pos q) ?_);show some (PyData.str (nm "~("))=_;exact rwl c1 rfl
   ·rw [<- hf,if_neg (by refine rwl q ?_;decide)];show some (PyData.str (nm "("))=_;exact rwl c2 rfl
  have p3:ev Φ B (cs "*") (upd (hide [nm "n"] ρ) (nm "n") (.d (.int i)))=some (.str (mkS [42])):=by show some (PyData.str (nm "*"))=_;exact rwl c3 rfl
  have p4:ev Φ B (cs ")") (upd (hide [nm "n"] ρ) (nm "n") (.d (.int i)))=some (.str (mkS [41])):=by show some (PyData.str (nm ")"))=_;exact rwl c4 rfl
  exact v_bin (v_bin (v_bin (v_bin p0 (v_idx (v_var (k1 rfl rfl h2)) (v_var lk_self) e1) (bin_addS (by exact t2 (Nat.add_le_add hfl hX) rfl))) p3 (bin_addS (by simp;exact H502 hfl hX rfl))) (v_idx (v_var (k1 rfl rfl h3)) (v_var lk_self) e2) (bin_addS (by simp;exact H503 hfl hX hY rfl))) p4 (bin_addS (by simp;exact H504 hfl hX hY rfl))
 refine (ev_mapT (as:=[(0,txt T1,txt T2),(1,outT T1,outT T2)]) (f:=fun p:Nat×List Nat×List Nat=> .int p.1) (g:=fun p=> .str (mkS (fl++p.2.1++[42]++p.2.2++[41]))) (src:= .tuple [.int ((0:Nat):Int),.int ((1:Nat):Int)]) (v_tup (vl_mes2 (v_c _) (v_c _))) rfl (by simp [szL]) fun p hp=> ?_).trans ?_
 ·simp only [List.mem_cons,List.not_mem_nil,or_false] at hp
  rcases hp with rfl|rfl
  ·exact key 0 _ _ (by decide) l1 l2 (by rfl) (by rfl)
  ·exact key 1 (outT T1) (outT T2) (by decide) (by exact Nat.le_trans o1 l1) (by exact Nat.le_trans o2 l2) (by rfl) (by rfl)
 ·have e1:txt (if flip=true then [Tk.s (.one 126),Tk.s (.one 40)] else [Tk.s (.one 40)])=fl:=by refine lwr hf ?_;split<;>rfl
  have e2:outT (if flip=true then [Tk.s (.one 126),Tk.s (.one 40)] else [Tk.s (.one 40)])=fl:=by refine lwr hf ?_;split<;>rfl
  have e3:txt [Tk.s (.one 42)]=[42]:=rfl
  have e4:outT [Tk.s (.one 42)]=[42]:=rfl
  have e5:txt [Tk.s (.one 41)]=[41]:=rfl
  have e6:outT [Tk.s (.one 41)]=[41]:=rfl
  simp only [List.map_cons,List.map_nil,twoD,txt_app,outT_app,e1,e2,e3,e4,e5,e6,List.append_assoc]
end
end Mine
namespace Mine
open PySem
theorem phi_texts {cs':List Nat} (hl:cs'.length=8) (h8:lt8s cs') {s:Nat} (hs:s<1000000) : ∀ (fuel n first last:Nat) (back:Bool),first<last->last<=8->last-first<=fuel ->
  Phi (n+fuel) (nm "_law_texts") [rowS cs',.int first,.int last,.bool back,.int s]=some (twoD (tks cs' s fuel first last back))
 | 0,n,first,last,back,h1,h2,h3=>H463 h3 h1
 | fuel+1,n,first,last,back,h1,h2,h3=>by
  have hz:szL=100000:=rfl
  generalize hρ0:[(nm "row", Bd.d (rowS cs')),(nm "first", .d (.int first)),(nm "last", .d (.int last)),(nm "back", .d (.bool back)),(nm "shape", .d (.int s))]=ρ0
  have e:Phi (n+(fuel+1)) (nm "_law_texts") [rowS cs',.int first,.int last,.bool back,.int s]=(exs (Phi (n+fuel)) (BB none) GG pTexts ρ0).bind (·.2):=by refine lwr hρ0 ?_;rfl
  refine rwl e ?_
  have a1:lk ρ0 (nm "row") = .d (rowS cs'):=by refine lwr hρ0 ?_;rfl
  have a2:lk ρ0 (nm "first") = .d (.int first):=by refine lwr hρ0 ?_;rfl
  have a3:lk ρ0 (nm "last") = .d (.int last):=by refine lwr hρ0 ?_;rfl
  have a4:lk ρ0 (nm "back") = .d (.bool back):=by refine lwr hρ0 ?_;rfl
  have a5:lk ρ0 (nm "shape") = .d (.int s):=by refine lwr hρ0 ?_;rfl
  generalize hmk:s/(first+2*last)=mark
  have hmk6:mark<1000000:=by refine lwr hmk ?_;exact Nat.lt_of_le_of_lt (Nat.div_le_self _ _) hs
  generalize hρ1:upd ρ0 (nm "hide") (.d hideQD)=ρ1
  have up1 : ∀ {y:Str} {b:Bd},(nm "hide" == y)=false->lk ρ0 y=b->lk ρ1 y=b:=fun q1 q=>lkU hρ1 q1 q
  have mk1:ev (Phi (n+fuel)) (BB none) (dv (vr "shape") (add (vr "first") (mul (ci 2) (vr "last")))) ρ1=some (.int mark):=by
   refine lwr hmk ?_
   exact v_bin (v_var (up1 rfl a5)) (v_bin (v_var (up1 rfl a2)) (v_bin (v_c (.int ((2:Nat):Int))) (v_var (up1 rfl a3)) (z:= .int (2*last:Nat)) rfl) bin_add) (bin_div _ (by exact H464 h1) (by exact Nat.lt_of_lt_of_le hs (Nat.le_of_ble_eq_true rfl)))
  generalize hρ2:upd ρ1 (nm "mark") (.d (.int mark))=ρ2
  have up2 : ∀ {y:Str} {b:Bd},(nm "hide" == y)=false->(nm "mark" == y)=false->lk ρ0 y=b->lk ρ2 y=b:=fun q1 q2 q=>lkU hρ2 q2 (up1 q1 q)
  have b0:lk ρ2 (nm "hide") = .d hideQD:=lkU hρ2 rfl (lkS hρ1)
  have b1:lk ρ2 (nm "mark") = .d (.int mark):=lkS hρ2
  have b2:=up2 rfl rfl a1
  have b3:=up2 rfl rfl a2
  have b4:=up2 rfl rfl a3
  have b5:=up2 rfl rfl a4
  have b6:=up2 rfl rfl a5
  have cond:ev (Phi (n+fuel)) (BB none) (eq' (sub (vr "last") (vr "first")) (ci 1)) ρ2=some (.bool (last-first==1)):=v_cmp (v_bin (v_var b4) (v_var b3) (bin_sub (by exact Nat.le_of_succ_le h1))) (v_c (.int ((1:Nat):Int))) (cmp_eqI _ _)
  by_cases hlf:last=first+1
  ·-- a leaf
   have hc8:=getD_lt hl h8 (show first<8 by exact Nat.le_trans h1 h2) 0
   generalize hc:cs'.getD first 0=c at hc8
   have hrow : ∀ {ρ:Loc},lk ρ (nm "row") = .d (rowS cs')->lk ρ (nm "first") = .d (.int first)->ev (Phi (n+fuel)) (BB none) (.idx (vr "row") (vr "first")) ρ=some (LD c):=fun q1 q2=>v_idx (v_var q1) (v_var q2) ((row_idx hl (by exact Nat.le_trans h1 h2)).trans (by exact rwl hc rfl))
   have hlow:LD (c-c%2) = .str (mkS [97+c/2]):=by
    have:c-c%2=2*(c/2):=by exact H465
    refine rwl this ?_
    show PyData.str (L _)=_
    exact rwl (L_even (by exact Nat.div_lt_of_lt_mul hc8)) rfl
   have le:ev (Phi (n+fuel)) (BB none) (low (.idx (vr "row") (vr "first"))) ρ2=some (.str (mkS [97+c/2])):=v_met (hrow b2 b3) ((low_L hc8).trans (by exact rwl hlow rfl))
   generalize hρ3:upd ρ2 (nm "letter") (.d (.str (mkS [97+c/2])))=ρ3
   have up3 : ∀ {y:Str} {b:Bd},(nm "letter" == y)=false->lk ρ2 y=b->lk ρ3 y=b:=fun q1 q=>lkU hρ3 q1 q
   have c1:lk ρ3 (nm "letter") = .d (.str (mkS [97+c/2])):=lkS hρ3
   have ti:ev (Phi (n+fuel)) (BB none) (.ite (ne' (ne' (vr "letter") (.idx (vr "row") (vr "first"))) (vr "back")) (cs "~") (cs "")) ρ3=some (.str (mkS (if ((c%2==1) != back) then [126] else []))):=by
    refine v_ite (t:=((c%2==1) != back)) (v_cmp (v_cmp (t:=(c%2==1)) (v_var c1) (hrow (up3 rfl b2) (up3 rfl b3)) ?_) (v_var (up3 rfl b5)) (cmp_bb _ _)) rfl (fun q=> ?_) fun q=> ?_
    ·refine lwr hlow (rwl (cmp_neS _ _) (rwl (L_inj (by exact Nat.sub_lt_of_lt hc8) hc8) ?_))
     congr 1
     by_cases z:c%2=0
     ·have z1:c-c%2=c:=by exact Eq.trans (congrArg (HSub.hSub _) z) rfl
      refine rwl z1 (rwl z ?_);simp
     ·have z1 : ¬ c-c%2=c:=by exact Nat.ne_of_lt (m2 z)
      have z2:c%2=1:=by exact Nat.le_antisymm (Nat.le_of_lt_succ (ml rfl rfl)) (Nat.pos_of_ne_zero z)
      refine rwl (beq_eq_false_iff_ne.mpr z1) (rwl z2 ?_);rfl
    ·refine rwl (if_pos q) ?_
     have:nm "~" = mkS [126]:=rfl
     show some (PyData.str (nm "~"))=_
     exact rwl this rfl
    ·rw [if_neg (by refine rwl q ?_;decide)]
     have:nm "" = mkS []:=rfl
     show some (PyData.str (nm ""))=_
     exact rwl this rfl
   generalize hρ4:upd ρ3 (nm "tilde") (.d (.str (mkS (if ((c%2==1) != back) then [126] else []))))=ρ4
   have up4 : ∀ {y:Str} {b:Bd},(nm "letter" == y)=false->(nm "tilde" == y)=false->lk ρ2 y=b->lk ρ4 y=b:=fun q1 q2 q=>lkU hρ4 q2 (up3 q1 q)
   have lf:=leaf_ev (Φ:=Phi (n+fuel)) (B:=BB none) (ρ:=ρ4) (first:=first) (mark:=mark) (c:=c) (back:=back) (up4 rfl rfl b3) (up4 rfl rfl b1) (up4 rfl rfl b0) (lkU hρ4 rfl c1) (lkS hρ4)
   have hT:tks cs' s (fuel+1) first last back=leafT c first back mark:=by
    unfold tks
    exact rwl (if_pos hlf) (rwl hmk (rwl hc rfl))
   have t1:exs (Phi (n+fuel)) (BB none) GG pTexts ρ0=some (ρ4,some (twoD (leafT c first back mark))):=by
    refine s_cons (x_asg pHide_ev) ?_
    refine rwl hρ1 ?_
    refine s_cons (x_asg mk1) ?_
    refine rwl hρ2 ?_
    refine s_ret (x_ite (t:=true) (x:= .bool true) (cond.trans (by exact rwl (show (last-first==1)=true by rw [beq_iff_eq];exact Eq.symm (Nat.eq_sub_of_add_eq' (id (Eq.symm hlf)))) rfl)) rfl (fun Z=> ?_) fun q=>by exact nomatch q)
    refine s_cons (x_asg le) ?_
    refine rwl hρ3 ?_
    refine s_cons (x_asg ti) ?_
    refine rwl hρ4 ?_
    exact s_ret (x_ret lf)
   refine rwl t1 (rwl hT ?_);rfl
  ·-- a node
   generalize hfl:(mark/8%2==1)=flip
   generalize hq:mark%(last-first-1)=q
   have hq2:q<last-first-1:=by refine lwr hq ?_;exact Nat.mod_lt _ (by exact H263 h1 hlf)
   have f1:ev (Phi (n+fuel)) (BB none) (eq' (md (dv (vr "mark") (ci 8)) (ci 2)) (ci 1)) ρ2=some (.bool flip):=by
    refine lwr hfl ?_
    exact v_cmp (v_bin (v_bin (v_var b1) (v_c (.int ((8:Nat):Int))) (bin_div 8 (by decide) (by exact Nat.lt_of_lt_of_le hmk6 (Nat.le_of_ble_eq_true rfl)))) (v_c (.int ((2:Nat):Int))) (bin_mod 2 (by decide))) (v_c (.int ((1:Nat):Int))) (cmp_eqI _ _)
   generalize hρ3:upd ρ2 (nm "flip") (.d (.bool flip))=ρ3
   have up3 : ∀ {y:Str} {b:Bd},(nm "flip" == y)=false->lk ρ2 y=b->lk ρ3 y=b:=fun q1 q=>lkU hρ3 q1 q
   have d1:ev (Phi (n+fuel)) (BB none) (add (add (vr "first") (ci 1)) (md (vr "mark") (sub (sub (vr "last") (vr "first")) (ci 1)))) ρ3=some (.int (first+1+q:Nat)):=by
    have s1:ev (Phi (n+fuel)) (BB none) (sub (sub (vr "last") (vr "first")) (ci 1)) ρ3=some (.int (last-first-1:Nat)):=v_bin (v_bin (v_var (up3 rfl b4)) (v_var (up3 rfl b3)) (bin_sub (by exact Nat.le_of_succ_le h1))) (v_c (.int ((1:Nat):Int))) (bin_sub (by exact Nat.le_sub_of_add_le' h1))
    refine lwr hq ?_
    exact v_bin (v_bin (v_var (up3 rfl b3)) (v_c (.int ((1:Nat):Int))) bin_add) (v_bin (v_var (up3 rfl b1)) s1 (bin_mod _ (by exact Nat.zero_lt_of_lt hq2))) bin_add
   generalize hcut:first+1+q=cut at d1
   generalize hρ4:upd ρ3 (nm "cut") (.d (.int cut))=ρ4
   have up4 : ∀ {y:Str} {b:Bd},(nm "flip" == y)=false->(nm "cut" == y)=false->lk ρ2 y=b->lk ρ4 y=b:=fun q1 q2 q=>lkU hρ4 q2 (up3 q1 q)
   have g1:lk ρ4 (nm "flip") = .d (.bool flip):=lkU hρ4 rfl (lkS hρ3)
   have g2:lk ρ4 (nm "cut") = .d (.int cut):=lkS hρ4
   have g3:=up4 rfl rfl b2
   have g4:=up4 rfl rfl b3
   have g5:=up4 rfl rfl b4
   have g6:=up4 rfl rfl b5
   have g7:=up4 rfl rfl b6
   have ih1:=phi_texts hl h8 hs fuel n first cut (back != flip) (by exact Nat.le_of_add_right_le (Nat.le_of_eq hcut)) (by exact H466 hcut hq2 h2) (by exact H291 h3 hq2 hcut)
   have ih2:=phi_texts hl h8 hs fuel n cut last (back != flip) (by exact hcut▸Nat.add_lt_of_lt_sub' hq2) h2 (by exact H293 h3 hcut)
   generalize hT1:tks cs' s fuel first cut (back != flip)=T1 at ih1
   generalize hT2:tks cs' s fuel cut last (back != flip)=T2 at ih2
   have l1:(txt T1).length<=200:=by refine lwr hT1 ?_;have:=tks_len cs' s fuel first cut (back != flip) (by exact Nat.le_of_add_right_le (Nat.le_of_eq hcut));exact H295 this (H466 hcut hq2 h2)
   have l2:(txt T2).length<=200:=by refine lwr hT2 ?_;have:=tks_len cs' s fuel cut last (back != flip) (by exact hcut▸Nat.add_lt_of_lt_sub' hq2);exact H295 this h2
   have bf : ∀ {ρ:Loc},lk ρ (nm "back") = .d (.bool back)->lk ρ (nm "flip") = .d (.bool flip)->ev (Phi (n+fuel)) (BB none) (ne' (vr "back") (vr "flip")) ρ=some (.bool (back != flip)):=fun q1 q2=>v_cmp (v_var q1) (v_var q2) (cmp_bb _ _)
   have o1:ev (Phi (n+fuel)) (BB none) (cl "_law_texts" [vr "row", vr "first", vr "cut", ne' (vr "back") (vr "flip"),vr "shape"]) ρ4=some (twoD T1):=v_call (vl_cons (v_var g3) (vl_cons (v_var g4) (vl_cons (v_var g2) (vl_mes2 (bf g6 g1) (v_var g7))))) ih1
   generalize hρ5:upd ρ4 (nm "one") (.d (twoD T1))=ρ5
   have up5 : ∀ {y:Str} {b:Bd},(nm "one" == y)=false->lk ρ4 y=b->lk ρ5 y=b:=fun q1 q=>lkU hρ5 q1 q
   have o2:ev (Phi (n+fuel)) (BB none) (cl "_law_texts" [vr "row", vr "cut", vr "last", ne' (vr "back") (vr "flip"),vr "shape"]) ρ5=some (twoD T2):=v_call (vl_cons (v_var (up5 rfl g3)) (vl_cons (v_var (up5 rfl g2)) (vl_cons (v_var (up5 rfl g5)) (vl_mes2 (bf (up5 rfl g6) (up5 rfl g1)) (v_var (up5 rfl g7)))))) ih2
   generalize hρ6:upd ρ5 (nm "two") (.d (twoD T2))=ρ6
   have k1:lk ρ6 (nm "one") = .d (twoD T1):=lkU hρ6 rfl (lkS hρ5)
   have k2:lk ρ6 (nm "two") = .d (twoD T2):=lkS hρ6
   have k3:lk ρ6 (nm "flip") = .d (.bool flip):=lkU hρ6 rfl (up5 rfl g1)
   have k4:lk ρ6 (nm "back") = .d (.bool back):=lkU hρ6 rfl (up5 rfl g6)
   have hT:tks cs' s (fuel+1) first last back=(if flip then [.s (.one 126),.s (.one 40)] else [.s (.one 40)])++((if (back != flip)=true then T2 else T1)++[.s (.one 42)]++(if (back != flip)=true then T1 else T2))++[.s (.one 41)]:=by
    rw [tks]
    dsimp only
    refine rwl (if_neg hlf) (rwl hmk (rwl hfl (rwl hq (rwl hcut (rwl hT1 (rwl hT2 ?_))))))
    rcases (back != flip) with _|_<;>simp
   obtain ⟨ρ7,e7,m1,m2,m3⟩ : ∃ ρ7,ex (Phi (n+fuel)) (BB none) GG (.ite (ne' (vr "back") (vr "flip")) (mss [.tup [(nm "one", false,vr "two"),(nm "two", false,vr "one")]]) .nil) ρ6=some (ρ7,none)/\lk ρ7 (nm "one") = .d (twoD (if (back != flip)=true then T2 else T1))/\lk ρ7 (nm "two") = .d (twoD (if (back != flip)=true then T1 else T2))/\lk ρ7 (nm "flip") = .d (.bool flip):=by
    rcases hb:(back != flip) with _|_
    ·exact ⟨ρ6,x_ite (t:=false) ((bf k4 k3).trans (by exact rwl hb rfl)) rfl (fun q=>by exact nomatch q) (fun Z=>s_nil),k1,k2,k3⟩
    ·refine ⟨_,x_ite (t:=true) ((bf k4 k3).trans (by exact rwl hb rfl)) rfl (fun Z=>s_last (x_tupD (v_var k2) (v_var k1))) (fun q=>by exact nomatch q),?_,?_,?_⟩
     ·exact (lk_ne rfl).trans lk_self
     ·exact lk_self
     ·exact (lk_ne rfl).trans ((lk_ne rfl).trans k3)
   have nd:=node_ev (Φ:=Phi (n+fuel)) (B:=BB none) m3 m1 m2 (by split<;>assumption) (by split<;>assumption)
   rw [<- hT] at nd
   have t1:exs (Phi (n+fuel)) (BB none) GG pTexts ρ0=some (ρ7,some (twoD (tks cs' s (fuel+1) first last back))):=by
    refine s_cons (x_asg pHide_ev) ?_
    refine rwl hρ1 ?_
    refine s_cons (x_asg mk1) ?_
    refine rwl hρ2 ?_
    refine s_cons (x_ite (t:=false) (x:= .bool false) (cond.trans (by exact rwl (show (last-first==1)=false by rw [beq_eq_false_iff_ne];exact H296 hlf) rfl)) rfl (fun q=>by exact nomatch q) fun Z=>s_nil) ?_
    refine s_cons (x_asg f1) ?_
    refine rwl hρ3 ?_
    refine s_cons (x_asg d1) ?_
    refine rwl hρ4 ?_
    refine s_cons (x_asg o1) ?_
    refine rwl hρ5 ?_
    refine s_cons (x_asg o2) ?_
    refine rwl hρ6 ?_
    exact s_cons e7 (s_ret (x_ret nd))
   refine rwl t1 ?_;rfl
end Mine
namespace Mine
open PySem
inductive PE where
 | i (n:Nat)
 | w (ws:List Nat)
noncomputable def peD:PE->D
 | .i n=> .int n
 | .w ws=>rowS ws
structure RJ (wl:List Nat) (P:List PE) (i c:Nat) (ρ:Loc):Prop where
 pi:lk ρ (nm "pile") = .o (P.map peD)
 en:lk ρ (nm "end") = .d (.int i)
 co:lk ρ (nm "count") = .d (.int c)
 le:lk ρ (nm "left") = .d (.str (mkS wl))
 pl:P.length<=i/\i<=5000
noncomputable def mSym2:ME:= .ite (eq' (len' (vr "unit")) (ci 2)) (sub (ci 255) (mul (ci 256) (md (vr "place") (ci 2)))) (vr "symbol")
noncomputable def mSym1:ME:= .dg (nm "EXACT_TOKEN_TYPES") (vr "unit") (.ite (eq' (vr "unit") (cs "\\")) (ci 0) (add (ci 256) (vr "count")))
noncomputable def mKinds:ME:=li [str' (cl "ISTERMINAL" [vr "symbol"]),str' (cl "ISNONTERMINAL" [vr "symbol"])]
noncomputable def mBad:ME:= .bop .Or (mes [ne' (vr "place") (sub (vr "end") (ci 1)),ne' (vr "kinds") (li [str' (.cmp .NotIn (vr "unit") (cs "abcd")),str' (.cmp .In (vr "unit") (cs "abcd"))])])
noncomputable def mClose:MSs:=mss [
    .asg (nm "word") (.ite (.cmp .Gt (vr "symbol") (ci 255)) (li [vr "unit"]) (add (.idx (ow "pile") (ci (-2))) (.idx (ow "pile") (ci (-1))))),
    .asgI (nm "pile") (.cmp .Gt (vr "symbol") (ci 255)) (.sl (ow "pile") nn (ci (-3)) nn),
    .ite (eq' (.sl (ow "pile") (ci (-1)) nn nn) (li [ci 31])) (mss [.tup [(nm "pile", true,.sl (ow "pile") nn (ci (-1)) nn),(nm "word", false,cl "_law_back" [vr "word"])]]) .nil,
    .app (nm "pile") (vr "word"),
    .asg (nm "count") (.ite (.cmp .Gt (vr "symbol") (ci 255)) (add (vr "count") (ci 1)) (vr "count"))]
noncomputable def mBranch:MS:= .ite (.cmp .In (vr "symbol") (tu [ci 7,ci 31])) (mss [.app (nm "pile") (vr "symbol")]) (mss [
   .ite (.bop .Or (mes [eq' (vr "symbol") (ci 8),.cmp .Gt (vr "symbol") (ci 255)])) mClose
   (mss [.ite (.cmp .NotIn (vr "symbol") (tu [ci (-1),ci 0,ci 16,ci 255])) (mss [.ret nn]) .nil])])
noncomputable def mReadB:MSs:=mss [
  .aug (nm "end") .Add (len' (vr "unit")),
  .asg (nm "symbol") mSym1,
  .asg (nm "symbol") mSym2,
  .asg (nm "kinds") mKinds,
  .ite mBad (mss [.ret nn]) .nil,
  mBranch]
section
variable {Φ B:Fns} {Γ:Gens} {ρ:Loc} {n:Nat} {wl:List Nat} {P:List PE} {i c:Nat}
theorem v_dg {x:Str} {a b:ME} {p q z:D} (ha:ev Φ B a ρ=some p) (hb:ev Φ B b ρ=some q) (h:B x [.none,p,q]=some z):ev Φ B (.dg x a b) ρ=some z:=bindI ha (bindI hb h)
theorem bb_dg (t:Option Tab) (p q:D):BB t (nm "EXACT_TOKEN_TYPES") [.none,p,q]=etokB p q:=by
 have e:BB t (nm "EXACT_TOKEN_TYPES") [.none,p,q]=if nm "EXACT_TOKEN_TYPES" == nm "EXACT_TOKEN_TYPES" then etokB p q else none:=by rfl
 exact rwl e (rwl (if_pos (beq_self_eq_true _)) rfl)
theorem phi_term {n:Nat} (a:Int):Phi (n+1) (nm "ISTERMINAL") [.int a]=some (.bool (decide (a<256))):=by rfl
theorem phi_nonterm {n:Nat} (a:Int):Phi (n+1) (nm "ISNONTERMINAL") [.int a]=some (.bool (decide (a>=256))):=by rfl
structure Unit' (u:List Nat) (p c:Nat) (sy:Int):Prop where
 et : ∃ y0:Int,etokB (.str (mkS u)) (.int (if u==[92] then 0 else 256+(c:Int)))=some (.int y0)/\sy=if u.length==2 then 255-256*((p:Int)%2) else y0
 ab:inD (.str (mkS u)) (.str (nm "abcd"))=some (decide (sy>=256))
 ln:1<=u.length/\u.length<=2
theorem rd_pre {u:List Nat} {sy:Int} (j:RJ wl P i c ρ) (U:Unit' u (i+u.length-1) c sy) (hi:i+u.length<=5000) : ∃ ρ',lk ρ' (nm "pile") = .o (P.map peD)/\lk ρ' (nm "end") = .d (.int (i+u.length:Nat))/\lk ρ' (nm "count") = .d (.int c)/\lk ρ' (nm "left") = .d (.str (mkS wl))/\lk ρ' (nm "symbol") = .d (.int sy)/\lk ρ' (nm "unit") = .d (.str (mkS u)) /\
  ∀ res,exs (Phi (n+1)) (BB none) Γ (.cons mBranch .nil) ρ'=some res->exs (Phi (n+1)) (BB none) Γ mReadB (upd (upd ρ (nm "place") (.d (.int (i+u.length-1:Nat)))) (nm "unit") (.d (.str (mkS u))))=some res:=by
 have hz:szL=100000:=rfl
 obtain ⟨⟨y0,et,hsy⟩,hab,hln1,hln2⟩:=U
 generalize hp:i+u.length-1=p at *
 generalize hρ0:upd (upd ρ (nm "place") (.d (.int p))) (nm "unit") (.d (.str (mkS u)))=ρ0
 have a1:lk ρ0 (nm "unit") = .d (.str (mkS u)):=lkS hρ0
 have a2:lk ρ0 (nm "place") = .d (.int p):=by refine lwr hρ0 ?_;exact (lk_ne (by decide +kernel)).trans lk_self
 have up0 : ∀ {y:Str} {b:Bd},(nm "place" == y)=false->(nm "unit" == y)=false->lk ρ y=b->lk ρ0 y=b:=fun q1 q2 q=>lkU hρ0 q2 ((lk_ne q1).trans q)
 have a3:=up0 (by decide +kernel) (by decide +kernel) j.pi
 have a4:=up0 (by decide +kernel) (by decide +kernel) j.en
 have a5:=up0 (by decide +kernel) (by decide +kernel) j.co
 have a6:=up0 (by decide +kernel) (by decide +kernel) j.le
 have hlenE : ∀ {ρ:Loc},lk ρ (nm "unit") = .d (.str (mkS u))->ev (Phi (n+1)) (BB none) (len' (vr "unit")) ρ=some (.int (u.length:Nat)):=fun q=>by
  refine v_blt (v_var q) ?_
  have:BB none (nm "len") [.str (mkS u)]=lenB (.str (mkS u)):=by rfl
  refine rwl this ?_
  unfold lenB
  dsimp only
  exact rwl (mkS_len _) (rwl (if_pos (by exact t2 hln2 rfl)) rfl)
 generalize hρ1:upd ρ0 (nm "end") (.d (.int ((i:Int)+(u.length:Nat))))=ρ1
 have up1 : ∀ {y:Str} {b:Bd},(nm "end" == y)=false->lk ρ0 y=b->lk ρ1 y=b:=fun q1 q=>lkU hρ1 q1 q
 have b1:=up1 (by decide +kernel) a1
 have b5:=up1 (by decide +kernel) a5
 have bE:lk ρ1 (nm "end") = .d (.int (i+u.length:Nat)):=by
  refine lwr hρ1 (rwl lk_self ?_)
  have:((i:Int)+(u.length:Nat))=((i+u.length:Nat):Int):=by exact Int.ofNat_add_ofNat _ _
  exact rwl this rfl
 have bsS:nm "\\" = mkS [92]:=by decide +kernel
 have s1:ev (Phi (n+1)) (BB none) mSym1 ρ1=some (.int y0):=by
  refine v_dg (v_var b1) (q:= .int (if u==[92] then 0 else 256+(c:Int))) (v_ite (t:=u==[92]) (v_cmp (v_var b1) (v_c _) (by exact rwl (cmp_eqS _ _) (rwl bsS (rwl (mkS_beq _ _) rfl)))) rfl (fun q=> ?_) fun q=> ?_) ((bb_dg _ _ _).trans et)
  ·refine rwl (if_pos q) ?_;exact v_c _
  ·rw [if_neg (by refine rwl q ?_;decide)];exact v_bin (v_c _) (v_var b5) rfl
 generalize hρ2:upd ρ1 (nm "symbol") (.d (.int y0))=ρ2
 have up2 : ∀ {y:Str} {b:Bd},(nm "symbol" == y)=false->lk ρ1 y=b->lk ρ2 y=b:=fun q1 q=>lkU hρ2 q1 q
 have c1:=up2 (by decide +kernel) b1
 have c2:=up2 (by decide +kernel) (up1 (by decide +kernel) a2)
 have s2:ev (Phi (n+1)) (BB none) mSym2 ρ2=some (.int sy):=by
  refine v_ite (t:=u.length==2) (v_cmp (hlenE c1) (v_c (.int ((2:Nat):Int))) (cmp_eqI _ _)) rfl (fun q=> ?_) fun q=> ?_
  ·refine rwl hsy (rwl (if_pos q) ?_)
   refine v_bin (v_c _) (v_bin (v_c _) (v_bin (v_var c2) (v_c (.int ((2:Nat):Int))) (bin_mod 2 (by decide))) (z:= .int (256*((p:Int)%2))) ?_) rfl
   simp [bAI,bAS,bAL,bSI,bMI,bML,bOI,bDI]
  ·rw [hsy,if_neg (by refine rwl q ?_;decide)]
   exact v_var (lkS hρ2)
 generalize hρ3:upd ρ2 (nm "symbol") (.d (.int sy))=ρ3
 have up3 : ∀ {y:Str} {b:Bd},(nm "symbol" == y)=false->lk ρ1 y=b->lk ρ3 y=b:=fun q1 q=>lkU hρ3 q1 (up2 q1 q)
 have d1:lk ρ3 (nm "symbol") = .d (.int sy):=lkS hρ3
 have s3:ev (Phi (n+1)) (BB none) mKinds ρ3=some (boolsD [decide (sy<256),decide (sy>=256)]):=v_list (vl_mes2 (v_blt (v_call (vl_mes1 (v_var d1)) (phi_term sy)) ((bb_str _).trans (str_bool _))) (v_blt (v_call (vl_mes1 (v_var d1)) (phi_nonterm sy)) ((bb_str _).trans (str_bool _))))
 generalize hρ4:upd ρ3 (nm "kinds") (.d (boolsD [decide (sy<256),decide (sy>=256)]))=ρ4
 have up4 : ∀ {y:Str} {b:Bd},(nm "symbol" == y)=false->(nm "kinds" == y)=false->lk ρ1 y=b->lk ρ4 y=b:=fun q1 q2 q=>lkU hρ4 q2 (up3 q1 q)
 have e1:=up4 (by decide +kernel) (by decide +kernel) b1
 have e2:=up4 (by decide +kernel) (by decide +kernel) (up1 (by decide +kernel) a2)
 have e3:=up4 (by decide +kernel) (by decide +kernel) bE
 have s4:ev (Phi (n+1)) (BB none) mBad ρ4=some (.bool false):=by
  refine v_bop (vb_or (t:=false) (v_cmp (t:=false) (v_var e2) (v_bin (v_var e3) (v_c (.int ((1:Nat):Int))) (bin_sub (by exact Nat.le_add_left_of_le hln1))) ?_) (fun Z=>vb_or (t:=false) (v_cmp (t:=false) (v_var (d:=boolsD [decide (sy<256),decide (sy>=256)]) (lkS hρ4)) (v_list (vl_mes2 (v_blt (v_cmp (t:= !decide (sy>=256)) (v_var e1) (v_c _) ?_) ((bb_str _).trans (str_bool _))) (v_blt (v_cmp (t:=decide (sy>=256)) (v_var e1) (v_c _) hab) ((bb_str _).trans (str_bool _))))) ?_) (fun Z=>vb_nil) fun q=>by exact nomatch q) fun q=>by exact nomatch q)
  ·refine rwl (cmp_neI _ _) ?_
   have:p=i+u.length-1:=hp.symm
   refine rwl this ?_;simp
  ·show (inD (.str (mkS u)) (.str (nm "abcd"))).map (!·)=_
   refine rwl hab ?_;rfl
  ·have hk:(!decide (sy>=256))=decide (sy<256):=by
    by_cases q:sy<256
    ·have : ¬ sy>=256:=by exact (fun {_ _} ↦ Int.not_le.mpr) q
     simp [q,this]
    ·have:sy>=256:=by exact (fun {_ _} ↦ Int.not_lt.mp) q
     simp [q,this]
   refine rwl hk ?_
   have h1:=cmp_eqB (as:=[decide (sy<256),decide (sy>=256)]) (bs:=[decide (sy<256),decide (sy>=256)])
   refine ne_self ?_ ?_
   ·show PyData.eqvAll [_,_] [_,_]=true
    simp [PyData.eqvAll,PyData.eqv]
   ·show PyData.depthAll [_,_]+1<=64
    simp [PyData.depthAll,PyData.depth]
 refine ⟨ρ4,up4 (by decide +kernel) (by decide +kernel) (up1 (by decide +kernel) a3),e3,up4 (by decide +kernel) (by decide +kernel) b5,up4 (by decide +kernel) (by decide +kernel) (up1 (by decide +kernel) a6),lkU hρ4 (by decide +kernel) d1,e1,fun res h=> ?_⟩
 refine s_cons (x_augA a4 (hlenE a1)) ?_
 refine rwl hρ1 ?_
 refine s_cons (x_asg s1) ?_
 refine rwl hρ2 ?_
 refine s_cons (x_asg s2) ?_
 refine rwl hρ3 ?_
 refine s_cons (x_asg s3) ?_
 refine rwl hρ4 ?_
 exact s_cons (x_ite (t:=false) s4 rfl (fun q=>by exact nomatch q) fun Z=>s_nil) h
end
end Mine
namespace Mine
open PySem
section
variable {Φ B:Fns} {Γ:Gens} {ρ:Loc} {n:Nat} {wl:List Nat} {P:List PE} {i c:Nat}
theorem eqv_int (a b:Int):PyData.eqv (.int a) (.int b)=(a==b):=by simp [PyData.eqv]
theorem in_tupI (a:Int) (bs:List Int):inD (.int a) (.tuple (bs.map PyData.int))=some (bs.any (·== a)):=by
 have hd:(PyData.int a).depth<=64:=by simp [PyData.depth]
 show (if (PyData.int a).depth<=64 then some ((bs.map PyData.int).any fun y=>PyData.eqv y (.int a)) else none)=_
 have e:((fun y=>PyData.eqv y (.int a)) ∘ PyData.int)=(fun b=>b==a):=funext fun b=>eqv_int b a
 exact rwl (if_pos hd) (rwl List.any_map (rwl e rfl))
theorem x_asgI_t {x:Str} {cc e:ME} {d:D} {ds:List D} (hc:ev Φ B cc ρ=some d) (ht:truD d=some true) (h:lk ρ x = .o ds):ex Φ B Γ (.asgI x cc e) ρ=some (upd ρ x (.o ds),none):=bindI (bindI hc ht) (ownI h rfl)
theorem x_asgI_f {x:Str} {cc e:ME} {d:D} {ds:List D} (hc:ev Φ B cc ρ=some d) (ht:truD d=some false) (h:ev Φ B e ρ=some (.list ds)):ex Φ B Γ (.asgI x cc e) ρ=some (upd ρ x (.o ds),none):=bindI (bindI hc ht) (lstI h rfl)
theorem x_tupO {x y:Str} {e1 e2:ME} {ds:List D} {d:D} (h1:ev Φ B e1 ρ=some (.list ds)) (h2:ev Φ B e2 ρ=some d):ex Φ B Γ (.tup [(x,true,e1),(y,false,e2)]) ρ=some (upd (upd ρ x (.o ds)) y (.d d),none):=mapI (a:=[(x,Bd.o ds),(y,Bd.d d)]) (bindI h1 (bindI (a:=Bd.o ds) rfl (mapI (a:=[(y,Bd.d d)]) (bindI h2 (bindI (a:=Bd.d d) rfl (mapI (a:=[]) rfl))))))
noncomputable def is31:PE->Bool
 | .i n=>n==31
 | .w _=>false
noncomputable def last31 (P:List PE):Bool:=match P.getLast? with|some x=>is31 x|none=>false
theorem last_app (P:List PE) (x:PE):last31 (P++[x])=is31 x:=by unfold last31;rw [List.getLast?_concat]
theorem depth_pe (x:PE):(peD x).depth<=2:=by
 rcases x with n|ws
 ·simp [peD,PyData.depth]
 ·have:=depth_row ws;show (rowS ws).depth<=2;exact Nat.le_succ_of_le this
theorem last_cmp (P:List PE):cmpD .Eq (.list ((P.map peD).drop (P.length-1))) (.list [.int 31])=some (last31 P):=by
 have key : ∀ x:PE,cmpD .Eq (.list [peD x]) (.list [.int 31])=some (is31 x):=by
  intro x
  have hd:(PyData.list [peD x]).depth<=64:=by
   show PyData.depthAll [peD x]+1<=64
   have:=depth_pe x
   simp only [PyData.depthAll]
   exact H468 this
  show (if (PyData.list [peD x]).depth<=64 then some (PyData.eqv (.list [peD x]) (.list [.int 31])) else none)=_
  refine rwl (if_pos hd) ?_
  show some (PyData.eqvAll [peD x] [.int 31])=_
  rcases x with n|ws
  ·simp only [PyData.eqvAll,peD,eqv_int,Bool.and_true,is31]
   congr 1
   by_cases q:n=31
   ·subst q;rfl
   ·exact rwl (beq_eq_false_iff_ne.mpr q) (rwl (beq_eq_false_iff_ne.mpr (by exact Nat.ToInt.of_diseq rfl rfl q)) rfl)
  ·simp [PyData.eqvAll,peD,PyData.eqv,is31]
 rcases List.eq_nil_or_concat P with rfl|⟨Q,x,rfl⟩
 ·rfl
 ·refine rwl List.concat_eq_append (rwl (last_app _ _) (rwl List.length_append (rwl List.map_append ?_)))
  have e:(Q.map peD++[x].map peD).drop (Q.length+[x].length-1)=[peD x]:=by
   show (Q.map peD++[peD x]).drop (Q.length+1-1)=_
   exact rwl (Nat.add_sub_cancel _ _) (lwr (List.length_map (f:=peD) (as:=Q)) (rwl List.drop_left rfl))
  refine rwl e ?_
  exact key x
theorem last_ev (hp:lk ρ (nm "pile") = .o (P.map peD)) (hl:P.length<=5000):ev Φ B (eq' (.sl (ow "pile") (ci (-1)) nn nn) (li [ci 31])) ρ=some (.bool (last31 P)):=by
 have hz:szL=100000:=rfl
 refine v_cmp (x:= .list ((P.map peD).drop (P.length-1))) ((v_slO hp (v_c _) (v_c _) (v_c _) (sl_list (l:=some (-1)) (h:=none) rfl rfl (by refine rwl (List.length_map _) ?_;exact t2 hl rfl))).trans ?_) (v_list (vl_mes1 (v_c _))) (last_cmp P)
 rw [clp_none];exact rwl clp_m1 (rwl List.take_length (rwl (List.length_map _) rfl))
theorem turn_ok {W:List Nat} {sy:Int} (hp:lk ρ (nm "pile") = .o (P.map peD)) (hw:lk ρ (nm "word") = .d (rowS W)) (hs:lk ρ (nm "symbol") = .d (.int sy)) (he:lk ρ (nm "end") = .d (.int i)) (hc:lk ρ (nm "count") = .d (.int c)) (hle:lk ρ (nm "left") = .d (.str (mkS wl)))
  (h8:lt8s W) (hW:W.length<=500) (hP:P.length+1<=i) (hi:i<=5000) :
  ∃ ρ',exs (Phi (n+1)) (BB none) Γ (mss [.ite (eq' (.sl (ow "pile") (ci (-1)) nn nn) (li [ci 31])) (mss [.tup [(nm "pile", true,.sl (ow "pile") nn (ci (-1)) nn),(nm "word", false,cl "_law_back" [vr "word"])]]) .nil,.app (nm "pile") (vr "word"),.asg (nm "count") (.ite (.cmp .Gt (vr "symbol") (ci 255)) (add (vr "count") (ci 1)) (vr "count"))]) ρ=some (ρ',none) /\
   RJ wl (if last31 P then P.dropLast++[.w (backP W)] else P++[.w W]) i (if sy>255 then c+1 else c) ρ':=by
 have hz:szL=100000:=rfl
 obtain ⟨ρ2,e2,P2,W2,k1,k2,k3,k4,k5,k6,hPW,hl2⟩ : ∃ ρ2,ex (Phi (n+1)) (BB none) Γ (.ite (eq' (.sl (ow "pile") (ci (-1)) nn nn) (li [ci 31])) (mss [.tup [(nm "pile", true,.sl (ow "pile") nn (ci (-1)) nn),(nm "word", false,cl "_law_back" [vr "word"])]]) .nil) ρ=some (ρ2,none) /\ ∃ P2 W2,lk ρ2 (nm "pile") = .o (P2.map peD)/\lk ρ2 (nm "word") = .d (rowS W2)/\lk ρ2 (nm "symbol") = .d (.int sy)/\lk ρ2 (nm "end") = .d (.int i)/\lk ρ2 (nm "count") = .d (.int c)/\lk ρ2 (nm "left") = .d (.str (mkS wl))/\P2++[PE.w W2]=(if last31 P then P.dropLast++[.w (backP W)] else P++[.w W])/\P2.length<=P.length:=by
  rcases h:last31 P with _|_
  ·exact ⟨ρ,x_ite (t:=false) ((last_ev hp (by exact Nat.le_trans (Nat.le_of_lt hP) hi)).trans (by exact rwl h rfl)) rfl (fun q=>by exact nomatch q) (fun Z=>s_nil),P,W,hp,hw,hs,he,hc,hle,by simp,Nat.le_refl _⟩
  ·refine ⟨_,x_ite (t:=true) ((last_ev hp (by exact Nat.le_trans (Nat.le_of_lt hP) hi)).trans (by exact rwl h rfl)) rfl (fun Z=>s_last (x_tupO (ds:=P.dropLast.map peD) (d:=rowS (backP W)) ?_ (v_call (vl_mes1 (v_var hw)) (phi_back h8 (by exact Nat.le_trans hW (Nat.le_of_ble_eq_true rfl)))))) (fun q=>by exact nomatch q),P.dropLast,backP W,?_,lk_self,?_,?_,?_,?_,by simp,by refine rwl List.length_dropLast ?_;exact Nat.sub_le _ 1⟩
   ·refine (v_slO hp (v_c _) (v_c _) (v_c _) (sl_list (l:=none) (h:=some (-1)) rfl rfl (by refine rwl (List.length_map _) ?_;exact Nat.le_trans (Nat.le_of_lt hP) (t2 hi rfl)))).trans ?_
    exact rwl clp_none (rwl clp_m1 (rwl List.drop_zero (rwl (List.length_map _) (rwl List.dropLast_eq_take (rwl List.map_take rfl)))))
   ·exact (lk_ne (by decide +kernel)).trans lk_self
   ·exact (lk_ne (by decide +kernel)).trans ((lk_ne (by decide +kernel)).trans hs)
   ·exact (lk_ne (by decide +kernel)).trans ((lk_ne (by decide +kernel)).trans he)
   ·exact (lk_ne (by decide +kernel)).trans ((lk_ne (by decide +kernel)).trans hc)
   ·exact (lk_ne (by decide +kernel)).trans ((lk_ne (by decide +kernel)).trans hle)
 have happ:ex (Phi (n+1)) (BB none) Γ (.app (nm "pile") (vr "word")) ρ2=some (setO ρ2 (nm "pile") ((P2++[PE.w W2]).map peD),none):=by
  refine (x_app (v_var k2) k1 (by refine rwl (List.length_map _) ?_;exact H469 hl2 hP hi rfl)).trans ?_
  refine rwl List.map_append ?_;rfl
 have g1:lk (setO ρ2 (nm "pile") ((P2++[PE.w W2]).map peD)) (nm "symbol") = .d (.int sy):=lk_setO_ne k3 (by decide +kernel)
 have g2:lk (setO ρ2 (nm "pile") ((P2++[PE.w W2]).map peD)) (nm "count") = .d (.int c):=lk_setO_ne k5 (by decide +kernel)
 have cnt:ev (Phi (n+1)) (BB none) (.ite (.cmp .Gt (vr "symbol") (ci 255)) (add (vr "count") (ci 1)) (vr "count")) (setO ρ2 (nm "pile") ((P2++[PE.w W2]).map peD))=some (.int ((if sy>255 then c+1 else c:Nat):Int)):=by
  refine v_ite (t:=decide (sy>255)) (v_cmp (v_var g1) (v_c _) rfl) rfl (fun q=> ?_) fun q=> ?_
  ·rw [decide_eq_true_eq] at q
   refine rwl (if_pos q) ?_
   exact v_bin (v_var g2) (v_c (.int ((1:Nat):Int))) bin_add
  ·rw [decide_eq_false_iff_not] at q
   refine rwl (if_neg q) ?_
   exact v_var g2
 refine ⟨_,s_cons e2 (s_cons happ (s_last (x_asg cnt))),?_,?_,lk_self,?_,?_⟩
 ·refine lwr hPW ?_;exact (lk_ne (by decide +kernel)).trans lk_setO
 ·exact (lk_ne (by decide +kernel)).trans (lk_setO_ne k4 (by decide +kernel))
 ·exact (lk_ne (by decide +kernel)).trans (lk_setO_ne k6 (by decide +kernel))
 ·refine lwr hPW (rwl List.length_append ?_)
  exact ⟨by simp;exact Nat.lt_of_le_of_lt hl2 hP,hi⟩
noncomputable abbrev tgPU:Tg:= .t [nm "place", nm "unit"]
noncomputable def Step (n:Nat) (Γ:Gens) (wl u:List Nat) (P P':List PE) (c c':Nat):Prop:= ∀ (i:Nat) (ρ:Loc),i+u.length<=5000->RJ wl P i c ρ ->
 ∃ ρ',exs (Phi (n+1)) (BB none) Γ mReadB (upd (upd ρ (nm "place") (.d (.int (i+u.length-1:Nat)))) (nm "unit") (.d (.str (mkS u))))=some (ρ',none)/\RJ wl P' (i+u.length) c' ρ'
theorem step_push {u:List Nat} {sy:Nat} (U : ∀ p c,Unit' u p c sy) (hsy:sy=7\/sy=31):Step n Γ wl u P (P++[.i sy]) c c:=by
 intro i ρ hi j
 refine ea17 (rd_pre (n:=n) (Γ:=Γ) j (U _ c) hi) fun ρ' k1 k2 k3 k4 k5 k6 hgo=> ?_
 have hl:=(U 0 c).ln.1
 have hpl:=j.pl
 refine ⟨setO ρ' (nm "pile") (P.map peD++[.int sy]),hgo _ (s_last (x_ite (t:=true) (v_cmp (v_var k5) (v_tup (vl_mes2 (v_c _) (v_c _))) ?_) rfl (fun Z=>s_last (x_app (v_var k5) k1 (by refine rwl (List.length_map _) ?_;simp [szL];exact t2 (Nat.le_trans hpl.1 hpl.2) rfl))) fun q=>by exact nomatch q)),?_,lk_setO_ne k2 (by decide +kernel),lk_setO_ne k3 (by decide +kernel),lk_setO_ne k4 (by decide +kernel),?_⟩
 ·rcases hsy with rfl|rfl<;>rfl
 ·refine rwl lk_setO (rwl List.map_append ?_);rfl
 ·refine rwl List.length_append ?_;exact ⟨by simp;exact Nat.add_le_add hpl.1 hl,hi⟩
theorem step_skip {u:List Nat} {sy:Nat->Int} (U : ∀ p c,Unit' u p c (sy p)) (hsy : ∀ p,sy p=16\/sy p=0\/sy p=255\/sy p = -1):Step n Γ wl u P P c c:=by
 intro i ρ hi j
 refine ea17 (rd_pre (n:=n) (Γ:=Γ) j (U _ c) hi) fun ρ' k1 k2 k3 k4 k5 k6 hgo=> ?_
 have hpl:=j.pl
 have c1:cmpD .In (.int (sy (i+u.length-1))) (.tuple [.int 7,.int 31])=some false:=by rcases hsy (i+u.length-1) with q|q|q|q<;>refine rwl q ?_<;>rfl
 have c2:cmpD .Eq (.int (sy (i+u.length-1))) (.int 8)=some false:=by rcases hsy (i+u.length-1) with q|q|q|q<;>refine rwl q ?_<;>rfl
 have c3:cmpD .Gt (.int (sy (i+u.length-1))) (.int 255)=some false:=by rcases hsy (i+u.length-1) with q|q|q|q<;>refine rwl q ?_<;>rfl
 have c4:cmpD .NotIn (.int (sy (i+u.length-1))) (.tuple [.int (-1),.int 0,.int 16,.int 255])=some false:=by rcases hsy (i+u.length-1) with q|q|q|q<;>refine rwl q ?_<;>rfl
 refine ⟨ρ',hgo _ (s_last (x_ite (t:=false) (v_cmp (v_var k5) (v_tup (vl_mes2 (v_c _) (v_c _))) c1) rfl (fun q=>by exact nomatch q) fun Z=>s_last (x_ite (t:=false) (v_bop (vb_or (t:=false) (v_cmp (v_var k5) (v_c _) c2) (fun Z=>vb_or (t:=false) (v_cmp (v_var k5) (v_c _) c3) (fun Z=>vb_nil) fun q=>by exact nomatch q) fun q=>by exact nomatch q)) rfl (fun q=>by exact nomatch q) fun Z=>s_last (x_ite (t:=false) (v_cmp (v_var k5) (v_tup (vl_cons (v_c _) (vl_cons (v_c _) (vl_mes2 (v_c _) (v_c _))))) c4) rfl (fun q=>by exact nomatch q) fun Z=>s_nil)))),k1,k2,k3,k4,by exact Nat.le_of_add_right_le (Nat.add_le_add_right hpl.1 _),hi⟩
theorem step_letter {a:Nat} (ha:a<4) (U : ∀ p c,Unit' [97+a] p c (256+(c:Int))):Step n Γ wl [97+a] P (if last31 P then P.dropLast++[.w [2*a+1]] else P++[.w [2*a]]) c (c+1):=by
 intro i ρ hi j
 refine ea17 (rd_pre (n:=n) (Γ:=Γ) j (U _ c) hi) fun ρ' k1 k2 k3 k4 k5 k6 hgo=> ?_
 have hpl:=j.pl
 have g1:cmpD .Gt (.int (256+(c:Int))) (.int 255)=some true:=by
  show some (decide ((256+(c:Int))>255))=_
  congr 1
  refine rwl decide_eq_true_eq ?_;exact H314
 have c1:cmpD .In (.int (256+(c:Int))) (.tuple [.int 7,.int 31])=some false:=by
  refine (in_tupI (256+(c:Int)) [7,31]).trans ?_
  congr 1
  simp
  exact H470
 have c2:cmpD .Eq (.int (256+(c:Int))) (.int 8)=some false:=by
  refine (cmp_eqI (256+c) 8).trans ?_
  congr 1
  rw [beq_eq_false_iff_ne];exact Nat.ne_of_gt (Nat.lt_of_add_left_lt (Nat.le_add_right _ _))
 have hgt : ∀ {ρ:Loc},lk ρ (nm "symbol") = .d (.int (256+(c:Int)))->ev (Phi (n+1)) (BB none) (.cmp .Gt (vr "symbol") (ci 255)) ρ=some (.bool true):=fun q=>v_cmp (v_var q) (v_c _) g1
 generalize hρ2:upd (upd ρ' (nm "word") (.d (rowS [2*a]))) (nm "pile") (.o (P.map peD))=ρ2
 have up : ∀ {y:Str} {b:Bd},(nm "word" == y)=false->(nm "pile" == y)=false->lk ρ' y=b->lk ρ2 y=b:=fun q1 q2 q=>lkU hρ2 q2 ((lk_ne q1).trans q)
 obtain ⟨ρ3,e3,j3⟩:=turn_ok (n:=n) (Γ:=Γ) (ρ:=ρ2) (P:=P) (W:=[2*a]) (sy:=256+(c:Int)) (i:=i+[97+a].length) (c:=c) (wl:=wl) (lkS hρ2) (lkU hρ2 (by decide +kernel) lk_self) (up (by decide +kernel) (by decide +kernel) k5) (up (by decide +kernel) (by decide +kernel) k2) (up (by decide +kernel) (by decide +kernel) k3) (up (by decide +kernel) (by decide +kernel) k4) (one_lt (by exact H317 ha)) (by simp) (by simp;exact hpl.1) (by exact hi)
 refine ⟨ρ3,hgo _ (s_last (x_ite (t:=false) (v_cmp (v_var k5) (v_tup (vl_mes2 (v_c _) (v_c _))) c1) rfl (fun q=>by exact nomatch q) fun Z=>s_last (x_ite (t:=true) (v_bop (vb_or (t:=false) (v_cmp (v_var k5) (v_c _) c2) (fun Z=>vb_or (t:=true) (hgt k5) (fun q=>by exact nomatch q) fun Z=>rfl) fun q=>by exact nomatch q)) rfl (fun Z=> ?_) fun q=>by exact nomatch q))),?_⟩
 ·refine s_cons (x_asg (d:=rowS [2*a]) (v_ite (t:=true) (hgt k5) rfl (fun Z=> ?_) fun q=>by exact nomatch q)) (s_cons (x_asgI_t (hgt ((lk_ne (by decide +kernel)).trans k5)) rfl ((lk_ne (by decide +kernel)).trans k1)) ?_)
  ·refine (v_list (vl_mes1 (v_var k6))).trans ?_
   show _=some (PyData.list [.str (L (2*a))])
   exact rwl (L_even ha) rfl
  ·refine rwl hρ2 ?_;exact e3
 ·have e1:(if (256+(c:Int))>255 then c+1 else c)=c+1:=if_pos (by exact H314)
  rw [e1] at j3
  have e2:backP [2*a]=[2*a+1]:=by
   unfold backP inv
   simp
  rw [e2] at j3
  exact j3
theorem step_close {Q:List PE} {W1 W2:List Nat} (U : ∀ p c,Unit' [41] p c 8) (h1:lt8s W1) (h2:lt8s W2) (l1:W1.length<=100) (l2:W2.length<=100):Step n Γ wl [41] (Q++[.i 7,.w W1,.w W2]) (if last31 Q then Q.dropLast++[.w (backP (W1++W2))] else Q++[.w (W1++W2)]) c c:=by
 intro i ρ hi j
 have hz:szL=100000:=rfl
 refine ea17 (rd_pre (n:=n) (Γ:=Γ) j (U _ c) hi) fun ρ' k1 k2 k3 k4 k5 k6 hgo=> ?_
 have hpl:=j.pl
 simp only [List.length_append,List.length_cons,List.length_nil] at hpl
 have hgt : ∀ {ρ:Loc},lk ρ (nm "symbol") = .d (.int 8)->ev (Phi (n+1)) (BB none) (.cmp .Gt (vr "symbol") (ci 255)) ρ=some (.bool false):=fun q=>v_cmp (v_var q) (v_c _) rfl
 have hlen:((Q++[PE.i 7,.w W1,.w W2]).map peD).length=Q.length+3:=by simp
 have hm:(Q++[PE.i 7,.w W1,.w W2]).map peD=Q.map peD++[.int (7:Nat),rowS W1,rowS W2]:=by refine rwl List.map_append ?_;rfl
 have x1:idxD (.list ((Q++[PE.i 7,.w W1,.w W2]).map peD)) (.int (-1-((1:Nat):Int)))=some (rowS W1):=by
  rw [idx_neg (by refine rwl hlen ?_;exact Nat.one_lt_succ_succ (_+1)) (by refine rwl hlen ?_;exact t2 (Nat.le_trans hpl.1 hpl.2) rfl),hlen,hm,List.getElem?_append_right (by simp)]
  simp
 have x2:idxD (.list ((Q++[PE.i 7,.w W1,.w W2]).map peD)) (.int (-1-((0:Nat):Int)))=some (rowS W2):=by
  rw [idx_neg (by refine rwl hlen ?_;exact Nat.zero_lt_succ (_+2)) (by refine rwl hlen ?_;exact t2 (Nat.le_trans hpl.1 hpl.2) rfl),hlen,hm,List.getElem?_append_right (by simp)]
  simp
 have wd:ev (Phi (n+1)) (BB none) (add (.idx (ow "pile") (ci (-2))) (.idx (ow "pile") (ci (-1)))) ρ'=some (rowS (W1++W2)):=v_bin (v_idxO k1 (v_c _) x1) (v_idxO k1 (v_c _) x2) (add_row (by exact t2 (Nat.add_le_add l1 l2) rfl))
 generalize hρ2:upd (upd ρ' (nm "word") (.d (rowS (W1++W2)))) (nm "pile") (.o (Q.map peD))=ρ2
 have up : ∀ {y:Str} {b:Bd},(nm "word" == y)=false->(nm "pile" == y)=false->lk ρ' y=b->lk ρ2 y=b:=fun q1 q2 q=>lkU hρ2 q2 ((lk_ne q1).trans q)
 obtain ⟨ρ3,e3,j3⟩:=turn_ok (n:=n) (Γ:=Γ) (ρ:=ρ2) (P:=Q) (W:=W1++W2) (sy:=8) (i:=i+[41].length) (c:=c) (wl:=wl) (lkS hρ2) (lkU hρ2 (by decide +kernel) lk_self) (up (by decide +kernel) (by decide +kernel) k5) (up (by decide +kernel) (by decide +kernel) k2) (up (by decide +kernel) (by decide +kernel) k3) (up (by decide +kernel) (by decide +kernel) k4) (lt8s_app h1 h2) (by simp;exact t2 (Nat.add_le_add l1 l2) rfl) (by simp;exact Nat.le_of_add_right_le hpl.1) (by exact hi)
 have cut:ev (Phi (n+1)) (BB none) (.sl (ow "pile") nn (ci (-3)) nn) (upd ρ' (nm "word") (.d (rowS (W1++W2))))=some (.list (Q.map peD)):=by
  refine (v_slO ((lk_ne (by decide +kernel)).trans k1) (v_c _) (v_c _) (v_c _) (sl_list (l:=none) (h:=some (-3)) rfl rfl (by refine rwl hlen ?_;exact t2 (Nat.le_trans hpl.1 hpl.2) rfl))).trans ?_
  refine rwl clp_none (rwl List.drop_zero (rwl hlen ?_))
  have:clp (some (-3)) (Q.length+3) (Q.length+3)=Q.length:=by unfold clp;dsimp only;refine rwl (if_pos (by decide)) ?_;exact H471
  exact rwl this (rwl hm (lwr (List.length_map (f:=peD) (as:=Q)) (rwl List.take_left rfl)))
 refine ⟨ρ3,hgo _ (s_last (x_ite (t:=false) (v_cmp (v_var k5) (v_tup (vl_mes2 (v_c _) (v_c _))) rfl) rfl (fun q=>by exact nomatch q) fun Z=>s_last (x_ite (t:=true) (v_bop (vb_or (t:=true) (v_cmp (v_var k5) (v_c _) rfl) (fun q=>by exact nomatch q) fun Z=>rfl)) rfl (fun Z=> ?_) fun q=>by exact nomatch q))),?_⟩
 ·refine s_cons (x_asg (v_ite (t:=false) (hgt k5) rfl (fun q=>by exact nomatch q) fun Z=>wd)) (s_cons (x_asgI_f (hgt ((lk_ne (by decide +kernel)).trans k5)) rfl cut) ?_)
  refine rwl hρ2 ?_;exact e3
 ·exact j3
end
end Mine
namespace Mine
open PySem
theorem noab {u:List Nat} {sy:Int} (h:inD (.str (mkS u)) (.str (nm "abcd"))=some false) (hs:sy<256):inD (.str (mkS u)) (.str (nm "abcd"))=some (decide (sy>=256)):=by
 exact rwl h (rwl (decide_eq_false (by exact (fun {_ _} ↦ Int.not_le.mpr) hs)) rfl)
theorem unit_lp (p c:Nat):Unit' [40] p c ((7:Nat):Int):=⟨⟨7,by rfl,by rfl⟩,noab (by decide +kernel) (by decide),by decide⟩
theorem unit_ti (p c:Nat):Unit' [126] p c ((31:Nat):Int):=⟨⟨31,by rfl,by rfl⟩,noab (by decide +kernel) (by decide),by decide⟩
theorem unit_rp (p c:Nat):Unit' [41] p c 8:=⟨⟨8,by rfl,by rfl⟩,noab (by decide +kernel) (by decide),by decide⟩
theorem unit_st (p c:Nat):Unit' [42] p c ((fun Z=>(16:Int)) p):=⟨⟨16,by rfl,by rfl⟩,noab (by decide +kernel) (by show (16:Int)<256;decide),by decide⟩
theorem unit_bs (p c:Nat):Unit' [92] p c ((fun Z=>(0:Int)) p):=⟨⟨0,by rfl,by rfl⟩,noab (by decide +kernel) (by show (0:Int)<256;decide),by decide⟩
theorem unit_two {x:Nat} (hx:x=41\/x=126\/x=34\/x=40\/x=92) (p c:Nat):Unit' [92,x] p c ((fun p:Nat=>(255-256*((p:Int)%2):Int)) p):=by
 refine ⟨⟨256+(c:Int),?_,by rfl⟩,noab ?_ (by dsimp only;exact H472),by simp⟩
 ·rcases hx with rfl|rfl|rfl|rfl|rfl<;>rfl
 ·rcases hx with rfl|rfl|rfl|rfl|rfl<;>decide +kernel
theorem unit_le {a:Nat} (ha:a<4) (p c:Nat):Unit' [97+a] p c (256+(c:Int)):=by
 have hab : ∀ a<4,inD (.str (mkS [97+a])) (.str (nm "abcd"))=some true:=by decide +kernel
 refine ⟨⟨256+(c:Int),?_,by rfl⟩,?_,by simp⟩
 ·match a,ha with
  | 0,_=>rfl
  | 1,_=>rfl
  | 2,_=>rfl
  | 3,_=>rfl
 ·exact rwl (hab a ha) (rwl (decide_eq_true (by exact Int.le.intro _ rfl)) rfl)
section
variable {Γ:Gens} {n:Nat} {wl:List Nat}
noncomputable def Goes (n:Nat) (Γ:Gens) (wl:List Nat) (ks:List Sk) (P P':List PE) (c c':Nat):Prop:= ∀ (i:Nat) (ρ:Loc) (r:List Nat),i+(skT ks).length<=5000->RJ wl P i c ρ ->
 ∃ ρ',RJ wl P' (i+(skT ks).length) c' ρ'/\runFor tgPU (exs (Phi (n+1)) (BB none) Γ mReadB) (escGo false i (skT ks++r)) ρ=runFor tgPU (exs (Phi (n+1)) (BB none) Γ mReadB) (escGo false (i+(skT ks).length) r) ρ'
theorem skT_app (a b:List Sk):skT (a++b)=skT a++skT b:=by unfold skT;exact rwl List.flatMap_append rfl
theorem goes_nil {P:List PE} {c:Nat}:Goes n Γ wl [] P P c c:=fun i ρ r hi j=>⟨ρ,j,rfl⟩
theorem goes_app {a b:List Sk} {P P' P'':List PE} {c c' c'':Nat} (x:Goes n Γ wl a P P' c c') (y:Goes n Γ wl b P' P'' c' c''):Goes n Γ wl (a++b) P P'' c c'':=by
 intro i ρ r hi j
 rw [skT_app,List.length_append] at hi
 obtain ⟨ρ1,j1,e1⟩:=x i ρ (skT b++r) (by exact H473 hi) j
 refine ea12 (y (i+(skT a).length) ρ1 r (by exact H474 hi) j1) fun ρ2 j2 e2=> ?_
 refine ⟨ρ2,?_,?_⟩
 ·refine rwl (skT_app _ _) (rwl List.length_append (lwr (Nat.add_assoc _ _ _) ?_));exact j2
 ·exact rwl (skT_app _ _) (rwl (List.append_assoc _ _ _) (rwl e1 (rwl e2 (rwl List.length_append (lwr (Nat.add_assoc _ _ _) rfl)))))
theorem goes_one {k:Sk} {P P':List PE} {c c':Nat} (hk:k.ok=true) (x:Step n Γ wl k.cs P P' c c'):Goes n Γ wl [k] P P' c c':=by
 intro i ρ r hi j
 have e:skT [k]=k.cs:=by unfold skT;simp
 rw [e] at hi ⊢
 refine ea12 (x i ρ hi j) fun ρ1 e1 j1=> ?_
 refine ⟨ρ1,j1,?_⟩
 exact rwl (esc_sk hk) (rwl (runFor_cons bind_item e1) rfl)
theorem goes_two {x:Nat} {P:List PE} {c:Nat} (hx:x=41\/x=126\/x=34\/x=40\/x=92):Goes n Γ wl [.two x] P P c c:=
 goes_one rfl (step_skip (unit_two hx) fun p=>by
  have h:(p:Int)%2=0\/(p:Int)%2=1:=by exact Int.emod_two_eq (↑_:Int)
  rcases h with h|h
  ·right;right;left;refine rwl h ?_;rfl
  ·right;right;right;refine rwl h ?_;rfl)
theorem goes_hide (m:Nat) (hm:m<8) {P:List PE} {c:Nat}:Goes n Γ wl (outS (hideQ.getD m [])) P P c c:=by
 match m,hm with
 | 0,_=>exact goes_nil
 | 1,_=>exact goes_two (.inl rfl)
 | 2,_=>exact goes_nil
 | 3,_=>exact goes_two (.inr (.inl rfl))
 | 4,_=>exact goes_nil
 | 5,_=>exact goes_two (.inr (.inr (.inl rfl)))
 | 6,_=>exact goes_two (.inr (.inr (.inr (.inl rfl))))
 | 7,_=>exact goes_two (.inr (.inr (.inr (.inr rfl))))
noncomputable def seg (cs':List Nat) (first last:Nat):List Nat:=(cs'.take last).drop first
noncomputable def valT (cs':List Nat) (first last:Nat) (back:Bool):List Nat:=if back then backP (seg cs' first last) else seg cs' first last
theorem back_back (w:List Nat):backP (backP w)=w:=by
 unfold backP
 refine lwr List.map_reverse (rwl List.map_map (rwl (List.reverse_reverse _) ?_))
 have:(inv ∘ inv)=id:=funext inv_inv
 exact rwl this (rwl (List.map_id _) rfl)
theorem back_app (a b:List Nat):backP (a++b)=backP b++backP a:=by unfold backP;exact rwl List.reverse_append (rwl List.map_append rfl)
theorem seg_split (cs':List Nat) {first cut last:Nat} (h1:first<=cut) (h2:cut<=last) (h3:last<=cs'.length):seg cs' first cut++seg cs' cut last=seg cs' first last:=by
 unfold seg
 have e:cs'.take last=cs'.take cut++(cs'.take last).drop cut:=by
  conv=>lhs;rw [<- List.take_append_drop cut (cs'.take last)]
  exact rwl List.take_take (rwl (Nat.min_eq_left h2) rfl)
 conv=>rhs;rw [e,List.drop_append_of_le_length (by refine rwl List.length_take ?_;exact H475 h1 h2 h3)]
theorem seg_lt {cs':List Nat} (h:lt8s cs') (a b:Nat):lt8s (seg cs' a b):=lt8s_drop (lt8s_take h _) _
theorem seg_len (cs':List Nat) (a b:Nat):(seg cs' a b).length<=b:=by unfold seg;refine rwl List.length_drop (rwl List.length_take ?_);exact Nat.le_trans (Nat.sub_le _ _) (Nat.min_le_left _ _)
theorem val_lt {cs':List Nat} (h:lt8s cs') (a b:Nat) (k:Bool):lt8s (valT cs' a b k):=by
 unfold valT
 split
 ·exact back_lt (seg_lt h _ _)
 ·exact seg_lt h _ _
theorem val_len (cs':List Nat) (a b:Nat) (k:Bool):(valT cs' a b k).length<=b:=by
 have:=seg_len cs' a b
 unfold valT
 split
 ·unfold backP;refine rwl (List.length_map _) (rwl List.length_reverse ?_);exact this
 ·exact this
theorem last_w (P:List PE) (W:List Nat):last31 (P++[.w W])=false:=last_app P _
theorem last_31 (P:List PE):last31 (P++[.i 31])=true:=last_app P _
theorem last_7 (P:List PE):last31 (P++[.i 7])=false:=last_app P _
theorem goes_leaf {c0 first mark c:Nat} {back:Bool} {P:List PE} (h8:c0<8) (hP:last31 P=false):Goes n Γ wl (outS (leafT c0 first back mark)) P (P++[.w (if back then [inv c0] else [c0])]) c (c+1):=by
 have ha:c0/2<4:=by exact Nat.div_lt_of_lt_mul h8
 have hle : ∀ {Q:List PE},Goes n Γ wl [.one (97+c0/2)] Q (if last31 Q then Q.dropLast++[.w [2*(c0/2)+1]] else Q++[.w [2*(c0/2)]]) c (c+1):=fun {Q}=>
  goes_one (by unfold Sk.ok;simp;exact H333) (step_letter ha (unit_le ha))
 have core:Goes n Γ wl ((if ((c0%2==1) != back)=true then [Sk.one 126] else [])++[.one (97+c0/2)]) P (P++[.w (if back then [inv c0] else [c0])]) c (c+1):=by
  by_cases q:((c0%2==1) != back)=true
  ·refine rwl (if_pos q) ?_
   have g1:Goes n Γ wl [Sk.one 126] P (P++[.i 31]) c c:=goes_one rfl (step_push unit_ti (.inr rfl))
   have g2:=goes_app g1 (hle (Q:=P++[.i 31]))
   rw [if_pos (last_31 P),List.dropLast_concat] at g2
   have e:(if back then [inv c0] else [c0])=[2*(c0/2)+1]:=by
    rcases back with _|_
    ·have h0:c0%2=1:=by
      by_cases z:c0%2=1
      ·exact z
      ·have:c0%2=0:=by exact H476 z
       rw [this] at q;exact nomatch q
     simp;exact H477 h0
    ·have h0:c0%2=0:=by
      have : ¬ c0%2=1:=fun z=>by rw [z] at q;exact nomatch q
      exact H476 this
     unfold inv;simp [h0];exact H478 h0
   refine rwl e ?_;exact g2
  ·refine rwl (if_neg q) (rwl (List.nil_append _) ?_)
   have g2:=hle (Q:=P)
   rw [hP] at g2
   have e:(if back then [inv c0] else [c0])=[2*(c0/2)]:=by
    rcases back with _|_
    ·have h0:c0%2=0:=by
      have : ¬ c0%2=1:=fun z=>by rw [z] at q;exact absurd rfl q
      exact H476 this
     simp;exact H478 h0
    ·have h0:c0%2=1:=by
      by_cases z:c0%2=1
      ·exact z
      ·have:c0%2=0:=by exact H476 z
       rw [this] at q;exact absurd rfl q
     unfold inv;simp [h0];exact H479 h0
   refine rwl e ?_;exact g2
 have e1:outS (if ((c0%2==1) != back)=true then [Tk.s (.one 126)] else [])=(if ((c0%2==1) != back)=true then [Sk.one 126] else []):=by split<;>rfl
 have e2:outS [Tk.s (.one (97+c0/2))]=[.one (97+c0/2)]:=rfl
 unfold leafT
 dsimp only
 split
 ·refine rwl (outS_app _ _) (rwl (outS_app _ _) (rwl e1 (rwl e2 ?_)))
  exact goes_app core (goes_hide _ (by exact ml rfl rfl))
 ·refine rwl (outS_app _ _) (rwl (outS_app _ _) (rwl e1 (rwl e2 (rwl (List.append_assoc _ _ _) ?_))))
  exact goes_app (goes_hide _ (by exact ml rfl rfl)) core
theorem goes_expr {cs':List Nat} (hl:cs'.length=8) (h8:lt8s cs') (s:Nat) : ∀ (fuel first last:Nat) (back:Bool) (P:List PE) (c:Nat),first<last->last<=8->last-first<=fuel->last31 P=false ->
  Goes n Γ wl (outS (tks cs' s fuel first last back)) P (P++[.w (valT cs' first last back)]) c (c+(last-first))
 | 0,first,last,back,P,c,h1,h2,h3,hP=>H463 h3 h1
 | fuel+1,first,last,back,P,c,h1,h2,h3,hP=>by
  unfold tks
  dsimp only
  by_cases hlf:last=first+1
  ·refine rwl (if_pos hlf) ?_
   have hc8:=getD_lt hl h8 (show first<8 by exact Nat.le_trans h1 h2) 0
   have hs:seg cs' first last=[cs'.getD first 0]:=by
    unfold seg
    refine rwl hlf (rwl List.take_add_one (rwl (List.getElem?_eq_getElem (by exact t3 (Nat.le_trans h1 h2) hl rfl)) (rwl List.getD_eq_getElem?_getD (rwl (List.getElem?_eq_getElem (by exact t3 (Nat.le_trans h1 h2) hl rfl)) ?_))))
    have:(cs'.take first).length=first:=by refine rwl List.length_take ?_;exact Nat.min_eq_left (Nat.le_trans (Nat.le_of_lt h1) (t3 h2 hl rfl))
    refine rwl (List.drop_append_of_le_length (by exact Nat.le_of_eq (id (Eq.symm this)))) (rwl (List.drop_of_length_le (by exact Nat.le_of_eq this)) ?_);rfl
   have e1:valT cs' first last back=(if back then [inv (cs'.getD first 0)] else [cs'.getD first 0]):=by
    unfold valT
    refine rwl hs ?_
    rcases back with _|_<;>rfl
   refine rwl e1 (rwl (show last-first=1 by exact Eq.symm (Nat.eq_sub_of_add_eq' (id (Eq.symm hlf)))) ?_)
   exact goes_leaf hc8 hP
  ·refine rwl (if_neg hlf) ?_
   generalize hmk:s/(first+2*last)=mark
   generalize (mark/8%2==1)=flip
   have hq2:mark%(last-first-1)<last-first-1:=Nat.mod_lt _ (by exact H263 h1 hlf)
   generalize mark%(last-first-1)=q at hq2
   have hlast8:last<=cs'.length:=by exact Eq.symm hl▸h2
   have ih1:=fun (P:List PE) (c:Nat) (h:last31 P=false)=>goes_expr hl h8 s fuel first (first+1+q) (back != flip) P c (by exact Nat.le_add_right _ _) (by exact H467 hq2 h2) (by exact H291 h3 hq2 rfl) h
   have ih2:=fun (P:List PE) (c:Nat) (h:last31 P=false)=>goes_expr hl h8 s fuel (first+1+q) last (back != flip) P c (by exact Nat.add_lt_of_lt_sub' hq2) h2 (by exact H340 h3) h
   generalize tks cs' s fuel first (first+1+q) (back != flip)=T1 at ih1
   generalize tks cs' s fuel (first+1+q) last (back != flip)=T2 at ih2
   have hsp:=seg_split cs' (first:=first) (cut:=first+1+q) (last:=last) (by exact Nat.le_of_lt (Nat.le_add_right _ _)) (by exact Nat.le_of_lt (s1 hq2)) hlast8
   generalize hP0:(if flip=true then P++[PE.i 31] else P)=P0
   have g0:Goes n Γ wl (outS (if flip=true then [Tk.s (.one 126),Tk.s (.one 40)] else [Tk.s (.one 40)])) P (P0++[.i 7]) c c:=by
    rcases flip with _|_
    ·refine lwr hP0 ?_
     exact goes_one rfl (step_push unit_lp (.inl rfl))
    ·have x1:Goes n Γ wl [Sk.one 126] P (P++[.i 31]) c c:=goes_one rfl (step_push unit_ti (.inr rfl))
     have x2:Goes n Γ wl [Sk.one 40] (P++[.i 31]) (P++[.i 31]++[.i 7]) c c:=goes_one rfl (step_push unit_lp (.inl rfl))
     refine lwr hP0 ?_
     exact goes_app x1 x2
   have star : ∀ {Q:List PE} {k:Nat},Goes n Γ wl (outS [Tk.s (.one 42)]) Q Q k k:=fun {Q k}=>goes_one (k:= .one 42) rfl (step_skip unit_st fun p=> .inl rfl)
   have hmid : ∃ W1 W2,lt8s W1/\lt8s W2/\W1.length<=100/\W2.length<=100/\W1++W2=(if (back != flip)=true then backP (seg cs' first last) else seg cs' first last) /\
     Goes n Γ wl (outS (if (back != flip)=true then T2++[Tk.s (.one 42)]++T1 else T1++[Tk.s (.one 42)]++T2)) (P0++[.i 7]) (P0++[.i 7,.w W1,.w W2]) c (c+(last-first)):=by
    rcases hb:(back != flip) with _|_
    ·rw [hb] at ih1 ih2
     refine ⟨valT cs' first (first+1+q) false,valT cs' (first+1+q) last false,val_lt h8 _ _ _,val_lt h8 _ _ _,by have:=val_len cs' first (first+1+q) false;exact H480 this hq2 h2,by have:=val_len cs' (first+1+q) last false;exact t2 (Nat.le_trans this h2) rfl,hsp,?_⟩
     refine rwl (if_neg (by decide)) (rwl (outS_app _ _) (rwl (outS_app _ _) ?_))
     have y1:=ih1 (P0++[.i 7]) c (last_7 P0)
     have y2:=ih2 (P0++[.i 7]++[.w (valT cs' first (first+1+q) false)]) (c+(first+1+q-first)) (last_w _ _)
     have e:c+(first+1+q-first)+(last-(first+1+q))=c+(last-first):=by exact H345 hq2
     rw [e] at y2
     have y3:=goes_app (goes_app y1 star) y2
     simpa using y3
    ·rw [hb] at ih1 ih2
     refine ⟨valT cs' (first+1+q) last true,valT cs' first (first+1+q) true,val_lt h8 _ _ _,val_lt h8 _ _ _,by have:=val_len cs' (first+1+q) last true;exact t2 (Nat.le_trans this h2) rfl,by have:=val_len cs' first (first+1+q) true;exact H480 this hq2 h2,?_,?_⟩
     ·show backP (seg _ _ _)++backP (seg _ _ _)=backP (seg cs' first last)
      exact lwr hsp (rwl (back_app _ _) rfl)
     ·refine rwl (if_pos rfl) (rwl (outS_app _ _) (rwl (outS_app _ _) ?_))
      have y1:=ih2 (P0++[.i 7]) c (last_7 P0)
      have y2:=ih1 (P0++[.i 7]++[.w (valT cs' (first+1+q) last true)]) (c+(last-(first+1+q))) (last_w _ _)
      have e:c+(last-(first+1+q))+(first+1+q-first)=c+(last-first):=by exact H346 hq2
      rw [e] at y2
      have y3:=goes_app (goes_app y1 star) y2
      simpa using y3
   refine ea26 hmid fun W1 W2 w1 w2 l1 l2 hW gm=> ?_
   have gc:Goes n Γ wl (outS [Tk.s (.one 41)]) (P0++[.i 7,.w W1,.w W2]) (if last31 P0 then P0.dropLast++[.w (backP (W1++W2))] else P0++[.w (W1++W2)]) (c+(last-first)) (c+(last-first)):=goes_one (k:= .one 41) rfl (step_close unit_rp w1 w2 l1 l2)
   have fin:=goes_app (goes_app g0 gm) gc
   rw [<- outS_app,<- outS_app] at fin
   have hres:(if last31 P0 then P0.dropLast++[PE.w (backP (W1++W2))] else P0++[.w (W1++W2)])=P++[.w (valT cs' first last back)]:=by
    refine rwl hW (lwr hP0 ?_)
    cases flip with
    | true=>
     refine rwl (if_pos rfl) (rwl (if_pos (last_31 P)) (rwl List.dropLast_concat ?_))
     rcases back with _|_
     ·show P++[PE.w (backP (backP _))]=_
      refine rwl (back_back _) ?_;rfl
     ·rfl
    | false=>
     have e0:(if false=true then P++[PE.i 31] else P)=P:=rfl
     refine rwl e0 (rwl hP ?_)
     rcases back with _|_<;>rfl
   rw [hres] at fin
   exact fin
end
end Mine
namespace Mine
open PySem
theorem hideQ_ok : ∀ i<8,(hideQ.getD i []).all Tk.ok=true:=by decide
theorem leaf_ok (c first:Nat) (back:Bool) (mark:Nat) (hc:c<8):(leafT c first back mark).all Tk.ok=true:=by
 have h:=hideQ_ok (mark%8) (by exact ml rfl rfl)
 have h1:(if ((c%2==1) != back)=true then [Tk.s (.one 126)] else []).all Tk.ok=true:=by split<;>rfl
 have h2:([Tk.s (.one (97+c/2))]).all Tk.ok=true:=by
  simp [Tk.ok,Sk.ok];exact H333
 unfold leafT
 dsimp only
 split<;>simp only [List.all_append,h,h1,h2,Bool.and_self]
theorem tks_ok {cs':List Nat} (hl:cs'.length=8) (h8:lt8s cs') (s:Nat) : ∀ (fuel first last:Nat) (back:Bool),first<last->last<=8->(tks cs' s fuel first last back).all Tk.ok=true
 | 0,_,_,_,_,_=>rfl
 | fuel+1,first,last,back,h1,h2=>by
  unfold tks
  dsimp only
  split
  ·exact leaf_ok _ _ _ _ (getD_lt hl h8 (by exact Nat.le_trans h1 h2) 0)
  ·rename_i hne
   have hq2:s/(first+2*last)%(last-first-1)<last-first-1:=Nat.mod_lt _ (by exact H263 h1 hne)
   generalize s/(first+2*last)%(last-first-1)=q at hq2
   generalize (s/(first+2*last)/8%2==1)=flip
   have i1:=tks_ok hl h8 s fuel first (first+1+q) (back != flip) (by exact Nat.le_add_right _ _) (by exact H467 hq2 h2)
   have i2:=tks_ok hl h8 s fuel (first+1+q) last (back != flip) (by exact Nat.add_lt_of_lt_sub' hq2) h2
   have e1:(if flip=true then [Tk.s (.one 126),Tk.s (.one 40)] else [Tk.s (.one 40)]).all Tk.ok=true:=by split<;>rfl
   have e2:([Tk.s (.one 42)]).all Tk.ok=true:=rfl
   have e3:([Tk.s (.one 41)]).all Tk.ok=true:=rfl
   generalize (if flip=true then [Tk.s (.one 126),Tk.s (.one 40)] else [Tk.s (.one 40)])=pre at e1 ⊢
   split<;>simp only [List.all_append,i1,i2,e1,e2,e3,Bool.and_self]
section
variable {Φ B:Fns} {Γ:Gens} {ρ:Loc}
theorem x_tup3 {x y z:Str} {e1 e2 e3:ME} {ds:List D} {d2 d3:D} (h1:ev Φ B e1 ρ=some (.list ds)) (h2:ev Φ B e2 ρ=some d2) (h3:ev Φ B e3 ρ=some d3):ex Φ B Γ (.tup [(x,true,e1),(y,false,e2),(z,false,e3)]) ρ=some (upd (upd (upd ρ x (.o ds)) y (.d d2)) z (.d d3),none):=mapI (a:=[(x,Bd.o ds),(y,Bd.d d2),(z,Bd.d d3)]) (bindI h1 (bindI (a:=Bd.o ds) rfl (mapI (a:=[(y,Bd.d d2),(z,Bd.d d3)]) (bindI h2 (bindI (a:=Bd.d d2) rfl (mapI (a:=[(z,Bd.d d3)]) (bindI h3 (bindI (a:=Bd.d d3) rfl (mapI (a:=[]) rfl)))))))))
theorem x_retI {x:Str} {c e:ME} {d:D} {ds:List D} (hc:ev Φ B c ρ=some d) (ht:truD d=some true) (h:lk ρ x = .o ds):ex Φ B Γ (.retI c x e) ρ=some (ρ,some (.list ds)):=bindI (bindI hc ht) (ownI h rfl)
end
theorem phi_read {n:Nat} {cs':List Nat} (hl:cs'.length=8) (h8:lt8s cs') (s:Nat):Phi (n+2) (nm "_law_read") [.str (mkS (outT (tks cs' s 8 0 8 false)++[92]))]=some (.list [rowS cs']):=by
 have hz:szL=100000:=rfl
 have hlen:=tks_len cs' s 8 0 8 false (by decide)
 have hol:=out_le (tks cs' s 8 0 8 false)
 have g:=fun wl=>goes_expr (n:=n) (Γ:=GG) (wl:=wl) hl h8 s 8 0 8 false [] 0 (by decide) (by decide) (by decide) rfl
 rw [out_sk] at hol ⊢
 generalize outS (tks cs' s 8 0 8 false)=ks at g hol
 generalize hw:skT ks++[92]=wl
 have hwl:wl.length=(skT ks).length+1:=by refine lwr hw (rwl List.length_append ?_);rfl
 have e:Phi (n+2) (nm "_law_read") [.str (mkS wl)]=(exs (Phi (n+1)) (BB none) GG pRead [(nm "left", .d (.str (mkS wl)))]).bind (·.2):=by rfl
 refine rwl e ?_
 generalize hρ:upd (upd (upd [(nm "left", Bd.d (.str (mkS wl)))] (nm "pile") (.o [])) (nm "end") (.d (.int 0))) (nm "count") (.d (.int 0))=ρ
 have j:RJ wl [] 0 0 ρ:=by refine lwr hρ ?_;exact ⟨by rfl,by rfl,by rfl,by rfl,by decide⟩
 refine ea12 (g wl 0 ρ [92] (by exact H481 hol hlen) j) fun ρ1 j1 e1=> ?_
 rw [Nat.zero_add] at j1 e1
 obtain ⟨ρ2,e2,j2⟩:=step_skip (n:=n) (Γ:=GG) (wl:=wl) (u:=[92]) unit_bs (fun p=> .inr (.inl rfl)) (skT ks).length ρ1 (by simp;exact t2 (Nat.le_trans hol (q8 hlen)) rfl) j1
 have run:runFor tgPU (exs (Phi (n+1)) (BB none) GG mReadB) (escItems (mkS wl)) ρ=some (ρ2,none):=by
  have:escItems (mkS wl)=escGo false 0 (skT ks++[92]):=by refine rwl hw ?_;rfl
  refine rwl this (rwl e1 (rwl esc_tail ?_))
  have hb:(skT ks).length+[92].length-1=(skT ks).length:=by rfl
  rw [hb] at e2
  refine rwl (runFor_cons bind_item e2) ?_;rfl
 have hg:GG (nm "_iter_escaped_chars") (.str (mkS wl))=some (escItems (mkS wl)):=by
  unfold GG
  exact rwl (if_pos (beq_self_eq_true _)) rfl
 have ln:ev (Phi (n+1)) (BB none) (len' (vr "left")) ρ2=some (.int wl.length):=by
  refine v_blt (v_var j2.le) ?_
  have:BB none (nm "len") [.str (mkS wl)]=lenB (.str (mkS wl)):=by rfl
  refine rwl this ?_
  unfold lenB
  dsimp only
  exact rwl (mkS_len _) (rwl (if_pos (by exact H482 hwl hol hlen rfl)) rfl)
 have cnd:ev (Phi (n+1)) (BB none) (eq' (vr "end") (len' (vr "left"))) ρ2=some (.bool true):=by
  refine v_cmp (v_var j2.en) ln ?_
  refine rwl (cmp_eqI _ _) ?_
  have:(skT ks).length+[92].length=wl.length:=by refine rwl hwl ?_;rfl
  refine rwl this ?_;simp
 have hv:valT cs' 0 8 false=cs':=by
  show (cs'.take 8).drop 0=cs'
  exact rwl List.drop_zero (rwl (List.take_of_length_le (by exact Nat.le_of_eq hl)) rfl)
 have hpi:=j2.pi
 rw [hv] at hpi
 have t1:exs (Phi (n+1)) (BB none) GG pRead [(nm "left", .d (.str (mkS wl)))]=some (ρ2,some (.list [rowS cs'])):=by
  refine s_cons (x_tup3 (v_list vl_nil) (v_c _) (v_c _)) ?_
  refine rwl hρ ?_
  refine s_cons (x_forG (v_var j.le) hg run) (s_ret (x_retI cnd rfl hpi))
 refine rwl t1 ?_;rfl
noncomputable def OnlyD (ρ:Loc):Prop:= ∀ y,lk ρ y = .un \/ ∃ d,lk ρ y = .d d
theorem only_upd {ρ:Loc} (h:OnlyD ρ) (x:Str) (d:D):OnlyD (upd ρ x (.d d)):=fun y=>by
 refine rwl (lk_upd _ _ _ _) ?_
 split
 ·exact .inr ⟨d,rfl⟩
 ·exact h y
theorem runs_law (xs:List Int) (h:xs.length<=63) : ∃ tb,Runs (20+1) (.list (xs.map .int)) (.bool true) tb:=by
 have hz:szL=100000:=rfl
 generalize hρ0:upd [(scriptN,Bd.d (.list (xs.map .int)))] (nm "start") (.d (natsD startL))=ρ0
 have a1:lk ρ0 (nm "start") = .d (natsD startL):=lkS hρ0
 have a2:lk ρ0 (nm "script") = .d (.list (xs.map .int)):=by refine lwr hρ0 (rwl (lk_ne rfl) ?_);rfl
 have o0:OnlyD ρ0:=by
  refine lwr hρ0 ?_
  refine only_upd (fun y=> ?_) _ _
  unfold lk
  split
  ·exact .inr ⟨_,rfl⟩
  ·exact .inl rfl
 have kk0:lk ρ0 kN = .un:=by refine lwr hρ0 ?_;rfl
 refine ea12 (sums_ev (Φ:=Phi 21) (t:=none) h a1 a2) fun sK hs hsum=> ?_
 refine ea14 (phi_row (n:=20) hs) fun cs' hl h8 hbal hrow=> ?_
 have hgood:=good_of hl (bal_zero hbal)
 generalize hS:(List.range 5).map (fun k=>PyData.int (sK k))=S at hsum hrow
 have hS5:S.length=5:=by refine lwr hS ?_;simp
 have hS4:S[4]? = some (.int (sK 4)):=by refine lwr hS ?_;rfl
 generalize hT:tks cs' (sK 4) 8 0 8 false=T
 have hTl:=tks_len cs' (sK 4) 8 0 8 false (by decide)
 have hTo:=tks_ok hl h8 (sK 4) 8 0 8 false (by decide) (by decide)
 have htx:=phi_texts hl h8 (hs 4) 8 13 0 8 false (by decide) (by decide) (by decide)
 have hrd:=phi_read (n:=19) hl h8 (sK 4)
 rw [hT] at hTl hTo htx hrd
 have hst:=phi_strip (n:=20) hTo (tl:=[92]) (.inr rfl) (by refine rwl List.length_append ?_;simp;exact t2 (q8 hTl) rfl)
 have hol:=out_le T
 generalize hρ1:upd (upd ρ0 (nm "sums") (.d (.list S))) (nm "row") (.d (rowS cs'))=ρ1
 have b1:lk ρ1 (nm "sums") = .d (.list S):=by refine lwr hρ1 ?_;exact (lk_ne rfl).trans lk_self
 have b2:lk ρ1 (nm "row") = .d (rowS cs'):=lkS hρ1
 have o1:OnlyD ρ1:=by refine lwr hρ1 ?_;exact only_upd (only_upd o0 _ _) _ _
 have kk1:lk ρ1 kN = .un:=by refine lwr hρ1 ?_;exact (lk_ne rfl).trans ((lk_ne rfl).trans kk0)
 generalize hρ2:upd (upd ρ1 (nm "text") (.d (.str (mkS (txt T))))) (nm "bare") (.d (.str (mkS (outT T))))=ρ2
 have c1:lk ρ2 (nm "sums") = .d (.list S):=by refine lwr hρ2 ?_;exact (lk_ne rfl).trans ((lk_ne rfl).trans b1)
 have c2:lk ρ2 (nm "row") = .d (rowS cs'):=by refine lwr hρ2 ?_;exact (lk_ne rfl).trans ((lk_ne rfl).trans b2)
 have c3:lk ρ2 (nm "text") = .d (.str (mkS (txt T))):=by refine lwr hρ2 ?_;exact (lk_ne rfl).trans lk_self
 have c4:lk ρ2 (nm "bare") = .d (.str (mkS (outT T))):=lkS hρ2
 have o2:OnlyD ρ2:=by refine lwr hρ2 ?_;exact only_upd (only_upd o1 _ _) _ _
 have kk2:lk ρ2 kN = .un:=by refine lwr hρ2 ?_;exact (lk_ne rfl).trans ((lk_ne rfl).trans kk1)
 generalize hρ3:upd (upd ρ2 (nm "left") (.d (.str (mkS (outT T++[92]))))) (nm "read") (.d (.list [rowS cs']))=ρ3
 have up3 : ∀ {y:Str} {b:Bd},(nm "left" == y)=false->(nm "read" == y)=false->lk ρ2 y=b->lk ρ3 y=b:=fun q1 q2 q=>by refine lwr hρ3 ?_;exact (lk_ne q2).trans ((lk_ne q1).trans q)
 have d1:=up3 rfl rfl c1
 have d2:=up3 rfl rfl c2
 have d4:=up3 rfl rfl c4
 have d5:lk ρ3 (nm "left") = .d (.str (mkS (outT T++[92]))):=by refine lwr hρ3 ?_;exact (lk_ne rfl).trans lk_self
 have d6:lk ρ3 (nm "read") = .d (.list [rowS cs']):=lkS hρ3
 have o3:OnlyD ρ3:=by refine lwr hρ3 ?_;exact only_upd (only_upd o2 _ _) _ _
 have kk3:lk ρ3 kN = .un:=up3 rfl rfl kk2
 have bsS:nm "\\" = mkS [92]:=rfl
 have cbs : ∀ {ρ:Loc},ev (Phi 21) (BB none) (cs "\\") ρ=some (.str (mkS [92])):=fun {ρ}=>by show some (PyData.str (nm "\\"))=_;exact rwl bsS rfl
 have cond:ev (Phi 21) (BB none) (.bop .Or (mes [ne' (vr "left") (add (vr "bare") (cs "\\")),ne' (vr "read") (li [vr "row"])])) ρ3=some (.bool false):=by
  refine v_bop (vb_or (t:=false) (v_cmp (v_var d5) (v_bin (v_var d4) cbs (bin_addS (by simp [szL];exact t2 (Nat.le_trans hol (q8 hTl)) rfl))) ?_) (fun Z=>vb_or (t:=false) (v_cmp (v_var d6) (v_list (vl_mes1 (v_var d2))) ?_) (fun Z=>vb_nil) fun q=>by exact nomatch q) fun q=>by exact nomatch q)
  ·refine rwl (cmp_neS _ _) (rwl (mkS_beq _ _) ?_);simp
  ·refine ne_self ?_ ?_
   ·show PyData.eqvAll [_] [_]=true
    simp only [PyData.eqvAll,eqv_row h8 h8,Bool.and_true]
    simp
   ·show PyData.depthAll [rowS cs']+1<=64
    have:=depth_row cs'
    simp only [PyData.depthAll]
    exact t2 (Nat.lt_succ_of_le this) rfl
 refine ⟨tbOf cs',⟨ρ3,?_,fun y ds q=> ?_,fun y u q=> ?_,?_,kk3,fun u=> ?_⟩,by unfold tbOf;simp,tb_ok hl h8,fun i p hp=> ?_⟩
 ·refine s_cons (x_asg (d:=natsD startL) (by rfl)) ?_
  refine rwl hρ0 ?_
  refine s_cons (x_asg hsum) (s_cons (x_asg (v_call (vl_mes1 (v_var lk_self)) hrow)) ?_)
  refine rwl hρ1 ?_
  refine s_cons (x_unp (v_call (vl_cons (v_var b2) (vl_cons (v_c _) (vl_cons (v_c _) (vl_mes2 (v_c _) (v_idx (v_var b1) (v_c (.int ((4:Nat):Int))) ((idx_nat (by exact t3 (Nat.le_refl _) hS5 rfl) (by exact t2 (Nat.le_of_eq hS5) rfl)).trans hS4)))))) htx) rfl) ?_
  refine rwl hρ2 ?_
  refine s_cons (x_asg (v_call (vl_mes1 (v_bin (v_var c3) cbs (bin_addS (by simp [szL];exact t2 (q8 hTl) rfl)))) hst)) (s_cons (x_asg (v_call (vl_mes1 (v_var lk_self)) hrd)) ?_)
  refine rwl hρ3 ?_
  exact s_last (x_ite (t:=false) cond rfl (fun q=>by exact nomatch q) fun Z=>s_nil)
 ·rcases o3 y with z|⟨d,z⟩<;>rw [z] at q<;>exact nomatch q
 ·rcases o3 y with z|⟨d,z⟩<;>rw [z] at q<;>exact nomatch q
 ·have:(tbOf cs').map (fun p=>PyData.str p.1)=cs'.map LD:=by
   unfold tbOf
   refine rwl List.map_map ?_
   apply List.ext_getElem?
   intro i
   by_cases q:i<8
   ·refine rwl List.getElem?_map (rwl (List.getElem?_range q) (rwl List.getElem?_map (rwl (List.getElem?_eq_getElem (by exact Nat.lt_of_lt_of_eq q (id (Eq.symm hl)))) ?_)))
    simp only [Option.map_some,Function.comp]
    refine rwl List.getD_eq_getElem?_getD (rwl (List.getElem?_eq_getElem (by exact Nat.lt_of_lt_of_eq q (id (Eq.symm hl)))) ?_);rfl
   ·rw [List.getElem?_eq_none (by simp;exact Nat.le_of_not_lt q),List.getElem?_eq_none (by simp;exact Eq.symm hl▸Nat.le_of_not_lt q)]
  refine rwl this ?_;exact d6
 ·have kb:KB cs' u S (upd ρ3 tableN (.v u)):=⟨(lk_ne rfl).trans d2,lk_self,(lk_ne rfl).trans d1⟩
  exact segB (n:=19) hl h8 hgood kb (hs 4) hS4 hS5
 ·have hi:i<8:=by
   have:=(List.getElem?_eq_some_iff.mp hp).1
   unfold tbOf at this
   exact this
  unfold tbOf at hp
  rw [List.getElem?_map,List.getElem?_range hi] at hp
  obtain rfl:=Option.some.inj hp
  exact dig_str hi
end Mine
namespace Mine.head
theorem tw6474009502463322548:True:=⟨⟩
theorem tw13412022041919118725:True:=⟨⟩
theorem tw13335025841360890868:True:=⟨⟩
theorem tw16267153104775628432:True:=⟨⟩
theorem tw5228876292888950982:True:=⟨⟩
theorem tw10047393819957995408:True:=⟨⟩
theorem tw13695277343892569604:True:=⟨⟩
theorem tw3036619207506137580:True:=⟨⟩
theorem tw14387253260952625049:True:=⟨⟩
theorem tw6684978435548883818:True:=⟨⟩
theorem tw8408249889716310983:True:=⟨⟩
theorem tw18370829525066284710:True:=⟨⟩
theorem tw6298033893332097587:True:=⟨⟩
theorem tw957920728692688272:True:=⟨⟩
theorem tw5506250874072839755:True:=⟨⟩
theorem tw5764021196749891206:True:=⟨⟩
theorem tw6211381574409162282:True:=⟨⟩
theorem tw14417885227837004991:True:=⟨⟩
theorem tw4159882011646715607:True:=⟨⟩
theorem tw5651425540991249520:True:=⟨⟩
theorem tw11669157530226713859:True:=⟨⟩
theorem tw16874305072444578374:True:=⟨⟩
theorem tw2237326684586592538:True:=⟨⟩
theorem tw5141380973458375857:True:=⟨⟩
theorem tw14393718171448925343:True:=⟨⟩
theorem tw7789450098604059249:True:=⟨⟩
theorem tw614141487946175412:True:=⟨⟩
theorem tw2525317073905713282:True:=⟨⟩
theorem tw1618804561499322139:True:=⟨⟩
theorem tw3746228215898030841:True:=⟨⟩
theorem tw2491421050496283774:True:=⟨⟩
theorem tw10504981510240967646:True:=⟨⟩
theorem tw1748456618969930982:True:=⟨⟩
theorem tw37620276538422747:True:=⟨⟩
theorem tw587121490752477604:True:=⟨⟩
theorem tw5824390128016035984:True:=⟨⟩
theorem tw14492117785962260688:True:=⟨⟩
theorem tw11296743742662292762:True:=⟨⟩
theorem tw12903917746401883607:True:=⟨⟩
theorem tw8057295282393585546:True:=⟨⟩
theorem tw10706776884845955466:True:=⟨⟩
theorem tw16278871845796110771:True:=⟨⟩
theorem tw2879759524354350568:True:=⟨⟩
theorem tw8187629637223713605:True:=⟨⟩
theorem tw17014734716931888790:True:=⟨⟩
theorem tw3304075619188804072:True:=⟨⟩
theorem tw5508695066786827253:True:=⟨⟩
theorem tw6889739017440866108:True:=⟨⟩
theorem tw9186546921256032858:True:=⟨⟩
theorem tw16050388347410925577:True:=⟨⟩
theorem tw8097174177036852075:True:=⟨⟩
theorem tw14112051064653734678:True:=⟨⟩
theorem tw7876399200375917224:True:=⟨⟩
theorem tw45052839361067614:True:=⟨⟩
theorem tw12604462930493870256:True:=⟨⟩
theorem tw15410735652082386980:True:=⟨⟩
theorem tw16966009324859112401:True:=⟨⟩
theorem tw9103479521544129834:True:=⟨⟩
theorem tw2694075680205673411:True:=⟨⟩
theorem tw6640010369347007910:True:=⟨⟩
theorem tw16984083398119652359:True:=⟨⟩
theorem tw6772502638888315869:True:=⟨⟩
theorem tw9388430590476628193:True:=⟨⟩
theorem tw17619409864816609055:True:=⟨⟩
theorem tw5219010496975762499:True:=⟨⟩
theorem tw11290360913936777911:True:=⟨⟩
theorem tw13896987355042952010:True:=⟨⟩
theorem tw11821203517306503961:True:=⟨⟩
theorem tw16106133796442146334:True:=⟨⟩
theorem tw10668533816033670360:True:=⟨⟩
theorem tw14145653219816572579:True:=⟨⟩
theorem tw9929037282122898367:True:=⟨⟩
theorem tw12287978374625458572:True:=⟨⟩
theorem tw1315816938146588887:True:=⟨⟩
theorem tw10510622979536455646:True:=⟨⟩
theorem tw5322401800075986657:True:=⟨⟩
theorem tw14969872817325187116:True:=⟨⟩
theorem tw14877080517539528568:True:=⟨⟩
theorem tw16128420640991077102:True:=⟨⟩
theorem tw11194998557105285118:True:=⟨⟩
theorem tw12865059321931465230:True:=⟨⟩
theorem tw8216097648270762014:True:=⟨⟩
theorem tw3794523003379204399:True:=⟨⟩
theorem tw17674571679781333832:True:=⟨⟩
theorem tw467416434755642258:True:=⟨⟩
theorem tw4451808723456900091:True:=⟨⟩
theorem tw6857060684267632606:True:=⟨⟩
theorem tw11988142204041823098:True:=⟨⟩
theorem tw15035418422258542911:True:=⟨⟩
theorem tw1049504637558403989:True:=⟨⟩
theorem tw5187041380464763778:True:=⟨⟩
theorem tw13743032657059413451:True:=⟨⟩
theorem tw14512941343882779238:True:=⟨⟩
theorem tw8997269238129315039:True:=⟨⟩
theorem tw1495726902847802894:True:=⟨⟩
theorem tw4307260679431091991:True:=⟨⟩
theorem tw4277651752456152607:True:=⟨⟩
theorem tw1986579791818689511:True:=⟨⟩
theorem tw4433315090154635215:True:=⟨⟩
theorem tw17002534310236347988:True:=⟨⟩
theorem tw1620002657737552111:True:=⟨⟩
theorem tw17988201657351507238:True:=⟨⟩
theorem tw2400818531096893172:True:=⟨⟩
theorem tw44622916816846810:True:=⟨⟩
theorem tw7906546307943345882:True:=⟨⟩
theorem tw17348764703882912863:True:=⟨⟩
theorem tw5487235932777146282:True:=⟨⟩
theorem tw10258521583956687137:True:=⟨⟩
theorem tw4746297304354101679:True:=⟨⟩
theorem tw4236395281166414720:True:=⟨⟩
theorem tw6053349399257934933:True:=⟨⟩
theorem tw4945251732147069371:True:=⟨⟩
theorem tw4709128311485490483:True:=⟨⟩
theorem tw4311042196063409733:True:=⟨⟩
theorem tw12812306615101265800:True:=⟨⟩
theorem tw12359489953124434286:True:=⟨⟩
theorem tw3806097482856845009:True:=⟨⟩
theorem tw15895551434495452948:True:=⟨⟩
theorem tw742351954350328859:True:=⟨⟩
theorem tw15520248196984853422:True:=⟨⟩
theorem tw4693820183103290663:True:=⟨⟩
theorem tw3869590956505411354:True:=⟨⟩
theorem tw9162278640276766204:True:=⟨⟩
theorem tw12987040726578829979:True:=⟨⟩
theorem tw17826015225549371706:True:=⟨⟩
theorem tw2825341998796452840:True:=⟨⟩
theorem tw466721876749952763:True:=⟨⟩
theorem tw12841863872788715202:True:=⟨⟩
theorem tw17197444120159719569:True:=⟨⟩
theorem tw7090939061502383884:True:=⟨⟩
theorem tw8382746154173761051:True:=⟨⟩
theorem tw2249667046024356820:True:=⟨⟩
theorem tw6880043348581005364:True:=⟨⟩
theorem tw3088210815446039105:True:=⟨⟩
theorem tw14842460003800876886:True:=⟨⟩
theorem tw4607607821588926596:True:=⟨⟩
theorem tw532055438628499158:True:=⟨⟩
theorem tw5104563664521345299:True:=⟨⟩
theorem tw12169159797338600327:True:=⟨⟩
theorem tw8773370040425892893:True:=⟨⟩
theorem tw6202090305015876224:True:=⟨⟩
theorem tw12344544660321961925:True:=⟨⟩
theorem tw1463646239528298992:True:=⟨⟩
theorem tw18260194641540637818:True:=⟨⟩
theorem tw17411354535832351560:True:=⟨⟩
theorem tw3696042808614700290:True:=⟨⟩
theorem tw9133290819911140118:True:=⟨⟩
theorem tw17464823870196871000:True:=⟨⟩
theorem tw2260579728952749127:True:=⟨⟩
theorem tw1499353310998574721:True:=⟨⟩
theorem tw17854896373637125580:True:=⟨⟩
theorem tw9145527808636388435:True:=⟨⟩
theorem tw13605870324054321959:True:=⟨⟩
theorem tw11124748197601291601:True:=⟨⟩
theorem tw16847831306532103052:True:=⟨⟩
theorem tw17508272824862286709:True:=⟨⟩
theorem tw7313386461004707312:True:=⟨⟩
theorem tw8912104118211102971:True:=⟨⟩
theorem tw9114333099845857663:True:=⟨⟩
theorem tw5019597260055213698:True:=⟨⟩
theorem tw17789423225533864492:True:=⟨⟩
end Mine.head
set_option tactic.hygienic true
open PySem PySem.W PyProof.Rows
set_option Elab.async true in
set_option maxRecDepth 100000 in
set_option maxHeartbeats 8000000 in
theorem Mine.head : PySem.Challenge.rw_tc0060_01.Holds := by
  w_on; o_law; k_head
  (case hw => w_witness2)
  w_strict (
    k_fill
    intro w s₀ s₁ mg mb G Y fa o pm cd doc dV kV ho hd hcd hD hmg hg args vals as hpre hlay hrd hwl hlo
    have X := kIn_of Y
    have TR := topRead_of G.T
    have X' : (Mine.head.heap_1_39 w.params).In s₁.heap := X
    generalize hK : Mine.head.heap_1_39 w.params = K at X'
    have c1 : Mine.progsB K = true := by rw [<- hK]; kernel_rfl
    have c2 : Mine.genB K = true := by rw [<- hK]; kernel_rfl
    have c2' : Mine.GenIs K := by rw [<- hK]; exact ⟨_, _, _, rfl, rfl, by constructor <;> kernel_rfl⟩
    have c3 : Mine.bltB K = true := by rw [<- hK]; kernel_rfl
    have c4 : Mine.ntB K = true := by rw [<- hK]; kernel_rfl
    have c6 : nsIn K mainGlobals Mine.etokN = some (some (.ref 39)) := by rw [<- hK]; kernel_rfl
    have cH : Mine.hdB K 220 114 121 217 159 184 = true := by rw [<- hK]; kernel_rfl
    have r1 : Mine.ReOk K Mine.re1N := by rw [<- hK]; exact .mk _ _ _ _ _ _ _ _ rfl rfl rfl (by kernel_rfl)
    have r2 : Mine.ReOk K Mine.re2N := by rw [<- hK]; exact .mk _ _ _ _ _ _ _ _ rfl rfl rfl (by kernel_rfl)
    have cV : Mine.methFn K 121 Mine.convT = true := by rw [<- hK]; kernel_rfl
    have cI : Mine.methFn K 114 Mine.initT = true := by rw [<- hK]; kernel_rfl
    have dD : Mine.DefIs K 114 := by rw [<- hK]; exact ⟨_, _, _, _, _, _, _, rfl, rfl, rfl⟩
    have cA : Mine.methFn K 217 Mine.addT = true := by rw [<- hK]; kernel_rfl
    have cG : Mine.methFn K 159 Mine.getT = true := by rw [<- hK]; kernel_rfl
    have cM : Mine.methFn K 184 Mine.itemsT = true := by rw [<- hK]; kernel_rfl
    have dV : Mine.BodyIs K 121 Mine.ConvOk := by rw [<- hK]; exact ⟨_, _, rfl, by constructor <;> kernel_rfl⟩
    have dI : Mine.BodyIs K 114 Mine.InitOk := by rw [<- hK]; exact ⟨_, _, rfl, by constructor <;> kernel_rfl⟩
    have dA : Mine.BodyIs K 217 Mine.AddOk := by rw [<- hK]; exact ⟨_, _, rfl, by constructor <;> kernel_rfl⟩
    have dG : Mine.BodyIs K 159 Mine.GetOk := by rw [<- hK]; exact ⟨_, _, rfl, by constructor <;> kernel_rfl⟩
    have dM : Mine.BodyIs K 184 Mine.ItemsOk := by rw [<- hK]; exact ⟨_, _, rfl, by constructor <;> kernel_rfl⟩
    have cHead : Mine.refAt (nsIn K mainGlobals (Mine.nm "Headers")) = some 220 := by rw [<- hK]; kernel_rfl
    have ck : keepIn K (.ref 220) = true := by rw [<- hK]; kernel_rfl
    have hsys : (K.any fun p => decide (sysModules <= p.1) && (K.lookup p.1).isSome) = true := by rw [<- hK]; kernel_rfl
    obtain ⟨es, n₀, c7, c5, c8⟩ : ∃ es n, K.lookup 39 = some ⟨.type "dict", none, .dict es n, #[]⟩ /\ Mine.etB K 39 es = true /\ KeysLit w.params es.toList := by
      rw [<- hK]
      refine ⟨_, _, rfl, by kernel_rfl, ?_⟩
      repeat (first | exact trivial | refine And.intro ⟨_, _, rfl, rfl⟩ ?_)
    clear Y X
    have hdV := Dflts.none hD rfl
    subst hdV
    clear hD
    obtain ⟨fd, body, LI, hgen, hok⟩ : ∃ fd body, Mine.FnIs (Mine.On s₁.heap) fa fd [Mine.scriptN] body /\ fd.scope.isGenerator = false /\ Mine.lawOk fd.scope.names body = true :=
      ⟨_, _, Mine.fnIs_of ho hd TR.nolimit hcd rfl (Mine.bind_plain (by kernel_rfl) (List.pairwise_singleton _ _)) rfl rfl rfl rfl rfl (by kernel_rfl) (by simp) (by kernel_rfl), rfl, by kernel_rfl⟩
    clear hcd hd ho
    wrow_args hpre hlay hrd hwl hlo
    rename_i ns _ _ _ _ _ _ _ a vs _ _ _ w1 _ _ _ hlen _
    obtain ⟨tb, RR⟩ := Mine.runs_law ns (by omega)
    have rm : Mine.Room callerA (20 + 5) := ⟨rfl, by decide +kernel, by decide +kernel⟩
    refine wpAny_call (codeAny_mono (Mine.law_K (prog := PySem.Challenge.rw_tc0060_01.row.prog) X' TR.g TR.b TR.nolimit TR.builtins c1 c2 c2' c3 c4 c5 c6 c7 c8 (by decide +kernel) cH r1 r2 cV dV dI dA dG dM cI dD cA cG cM cHead ck hsys LI hgen hok RR rm (Mine.On.refl _) (Mine.well_rep w1)) fun r s' hr => ?_)
    obtain ⟨v', rfl, x, rep⟩ := hr
    cases rep
    refine ⟨.inl ⟨_, _, [], rfl, fun _ => rfl, ReadsW.bool true, by kernel_rfl, fun _ => ⟨List.nodup_nil, fun _ hm => (nomatch hm)⟩⟩, OldK.of_keep x.keep, x.os, x.bare (by rw [hg]; simp)⟩)
theorem PySem.Challenge.cw_tc0060_01_holds : PySem.Challenge.rw_tc0060_01.Holds :=
  Mine.head
