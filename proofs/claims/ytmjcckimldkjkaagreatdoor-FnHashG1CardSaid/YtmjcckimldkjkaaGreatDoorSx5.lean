/- Part 5 of the proof: for every message and domain the law FnHashG1 returns true (a verified symbolic evaluator, contracts of each function reached, the law, its row and card). Conditions: those of the given statement, none besides. -/
import Derived.Test.YtmjcckimldkjkaaGreatDoorSx4
namespace Go.Sx
open Go Go.Num
def inv0 (a:Nat):Nat:=pw qN 256 a (qN-2)
theorem priN:Pri qN:=pri_q
theorem inv0_eq (a:Nat):inv0 a=a ^ (qN-2)%qN:=pw_eq (by decide)
theorem inv0_lt (a:Nat):inv0 a<qN:=by rw[inv0_eq];exact Nat.mod_lt _ (by decide)
theorem inv0_zero:inv0 0=0:=by rw[inv0_eq,Nat.zero_pow (by decide)];rfl
theorem inv0_mul {a:Nat} (h:a%qN≠0):inv0 a*a%qN=1:=by
 rw[inv0_eq,Nat.mod_mul_mod,←Nat.pow_succ,show (qN-2).succ=qN-1 by decide]
 exact fermat priN h
theorem inv0_unique {a x:Nat} (hx:x<qN) (h:x*a%qN=1):x=inv0 a:=by
 have ha:a%qN≠0:=by
  intro e
  rw[Nat.mul_mod,e,Nat.mul_zero]at h
  exact absurd h (by decide)
 have e:=inv0_mul ha
 have e1:x*a%qN*inv0 a%qN=inv0 a:=by rw[h,Nat.one_mul,Nat.mod_eq_of_lt (inv0_lt a)]
 rw[Nat.mod_mul_mod,Nat.mul_assoc,Nat.mul_comm a,Nat.mul_mod,e,Nat.mul_one,Nat.mod_mod,Nat.mod_eq_of_lt hx]at e1
 exact e1
def e4N:Nat:=5472060717959818805561601436314318772174077789324455915672259473661306552146
def rtN (a:Nat):Nat:=pw qN 256 a e4N
theorem rtN_eq (a:Nat):rtN a=a ^ e4N%qN:=pw_eq (by decide)
theorem rtN_lt (a:Nat):rtN a<qN:=by rw[rtN_eq];exact Nat.mod_lt _ (by decide)
theorem rt_gen {a k h:Nat} (e:k+k=h+1):a ^ k%qN*(a ^ k%qN)%qN=a ^ h%qN*a%qN:=by
 rw[←Nat.mul_mod,←Nat.pow_add,Nat.mod_mul_mod,←Nat.pow_succ,e]
def ppN (a:Nat):Nat:=a ^ (qN / 2)%qN
theorem rtN_sq (a:Nat):rtN a*rtN a%qN=ppN a*a%qN:=by
 rw[rtN_eq]
 exact rt_gen (by decide)
theorem qN_odd:qN%2=1:=by decide
theorem eulerN {a:Nat} (h:a%qN≠0):(J a qN=1∧ppN a=1)∨(J a qN= -1∧ppN a=qN-1):=euler_mod priN qN_odd h
def lgN (z:Nat):Int:=if z=0 then 0 else J z qN
def sqN (a:Nat):Bool:=decide (rtN a*rtN a%qN=a)
theorem neg_aux {q a z:Nat} (h:a<q) (h0:a≠0) (ho:q%2=1) (e:z+a=q*a):z%q≠a:=by
 intro e1
 have h2:z=q*(z / q)+a:=by have:=Nat.div_add_mod z q;omega
 have h3:a+a=q*(a-z / q):=by
  rw[Nat.mul_sub];omega
 have h4:q ∣ 2*a:=⟨a-z / q,by omega⟩
 have h5:Nat.Coprime q 2:=by
  have:Nat.gcd q 2=Nat.gcd 2 (q%2):=by rw[Nat.gcd_comm,Nat.gcd_rec,Nat.gcd_comm]
  show Nat.gcd q 2=1
  rw[Nat.gcd_comm,Nat.gcd_rec,ho]
  rfl
 have h6:=Nat.Coprime.dvd_of_dvd_mul_left h5 h4
 exact absurd (Nat.le_of_dvd (by omega) h6) (by omega)
theorem neg_ne {a:Nat} (h:a<qN) (h0:a≠0):(qN-1)*a%qN≠a:=neg_aux h h0 qN_odd (by rw[←Nat.succ_mul,show (qN-1).succ=qN by decide])
theorem sqN_iff {a:Nat} (h:a<qN):sqN a=true↔lgN a≠ -1:=by
 unfold sqN lgN
 rw[decide_eq_true_eq,rtN_sq]
 by_cases h0:a=0
 ·rw[h0,Nat.mul_zero,Nat.zero_mod,if_pos rfl]
  decide
 ·rw[if_neg h0]
  have hm:a%qN≠0:=by rw[Nat.mod_eq_of_lt h];exact h0
  rcases eulerN hm with ⟨e1,e2⟩ | ⟨e1,e2⟩
  ·rw[e2,Nat.one_mul,Nat.mod_eq_of_lt h]
   exact ⟨fun _=>by rw[e1];decide,fun _=>rfl⟩
  ·rw[e2]
   exact ⟨fun e=>absurd e (neg_ne h h0),fun e=>absurd e1 e⟩
theorem lgN_cases {a:Nat} (h:a<qN):lgN a=0∨lgN a=1∨lgN a= -1:=by
 unfold lgN
 by_cases h0:a=0
 ·simp[h0]
 ·rw[if_neg h0]
  exact .inr (J_sq qN_odd (by rw[Int.natAbs_natCast];exact priN.cop (by omega) h))
instance : NeZero qN:=⟨by decide⟩
def fz (a:Nat):Fin qN:=Fin.ofNat qN a
theorem fz_add (a b:Nat):fz (a+b)=fz a+fz b:=by
 apply Fin.ext
 show (a+b)%qN=(a%qN+b%qN)%qN
 rw[Nat.add_mod]
theorem fz_mul (a b:Nat):fz (a*b)=fz a*fz b:=by
 apply Fin.ext
 show (a*b)%qN=(a%qN*(b%qN))%qN
 rw[Nat.mul_mod]
theorem fz_mod (a:Nat):fz (a%qN)=fz a:=by
 apply Fin.ext
 show a%qN%qN=a%qN
 rw[Nat.mod_mod]
theorem fz_eq {a b:Nat}:fz a=fz b↔a%qN=b%qN:=⟨fun h=>congrArg Fin.val h,fun h=>Fin.ext h⟩
theorem fz_q (a:Nat):fz (qN*a)=0:=by
 apply Fin.ext
 show qN*a%qN=0%qN
 rw[Nat.mul_mod_right,Nat.zero_mod]
theorem fz_sub {a b:Nat} (h:b≤qN):fz (a+(qN-b))=fz a-fz b:=by
 have e:fz (a+(qN-b))+fz b=fz a:=by
  rw[←fz_add,Nat.add_assoc,Nat.sub_add_cancel h,fz_add,show fz qN=0 from fz_q 1]
  grobner
 rw[←e]
 grobner
theorem fz_half {x a u h w:Nat} (h1:x*a%qN=u%qN) (h2:fz (2*h)=fz x) (h3:fz (2*w)=fz u):h*a%qN=w%qN:=by
 have i:fz (inv0 2)*fz 2=1:=by
  rw[←fz_mul]
  show _=fz 1
  rw[fz_eq]
  decide +kernel
 have h1:=fz_eq.2 h1
 rw[fz_mul]at h1 h2 h3
 rw[←fz_eq,fz_mul]
 grobner
def c2N:Nat:=10944121435919637611123202872628637544348155578648911831344518947322613104291
def c3N:Nat:=8815841940592487685674414971303048083897117035520822607866
def c4N:Nat:=7296080957279758407415468581752425029565437052432607887563012631548408736189
def gN (x:Nat):Nat:=(x*(x*x%qN)%qN+3)%qN
def tN (u:Nat):Nat:=u*u%qN*4%qN
def moN (u:Nat):Nat:=(1+tN u)%qN
def leN (u:Nat):Nat:=(1+(qN-tN u))%qN
def ivN (u:Nat):Nat:=inv0 (leN u*moN u%qN)
def stN (u:Nat):Nat:=u*leN u%qN*ivN u%qN*c3N%qN
def x1N (u:Nat):Nat:=(c2N+(qN-stN u))%qN
def x2N (u:Nat):Nat:=(c2N+stN u)%qN
def vvN (u:Nat):Nat:=moN u*moN u%qN*ivN u%qN
def x3N (u:Nat):Nat:=(vvN u*vvN u%qN*c4N%qN+1)%qN
theorem fz_g (x:Nat):fz (gN x)=fz x*fz x*fz x+3:=by
 unfold gN
 rw[fz_mod,fz_add,fz_mod,fz_mul,fz_mod,fz_mul,show fz 3=3 from rfl]
 grobner
theorem tN_lt (u:Nat):tN u<qN:=Nat.mod_lt _ (by decide)
theorem stN_lt (u:Nat):stN u<qN:=Nat.mod_lt _ (by decide)
theorem gN_lt (x:Nat):gN x<qN:=Nat.mod_lt _ (by decide)
theorem fz_t (u:Nat):fz (tN u)=fz u*fz u*4:=by
 unfold tN
 rw[fz_mod,fz_mul,fz_mod,fz_mul];rfl
theorem fz_mo (u:Nat):fz (moN u)=1+fz (tN u):=by
 unfold moN
 rw[fz_mod,fz_add];rfl
theorem fz_le (u:Nat):fz (leN u)=1-fz (tN u):=by
 unfold leN
 rw[fz_mod,fz_sub (Nat.le_of_lt (tN_lt u))];rfl
theorem fz_st (u:Nat):fz (stN u)=fz u*fz (leN u)*fz (ivN u)*fz c3N:=by
 unfold stN
 rw[fz_mod,fz_mul,fz_mod,fz_mul,fz_mod,fz_mul]
theorem fz_x1 (u:Nat):fz (x1N u)=fz c2N-fz (stN u):=by
 unfold x1N
 rw[fz_mod,fz_sub (Nat.le_of_lt (stN_lt u))]
theorem fz_x2 (u:Nat):fz (x2N u)=fz c2N+fz (stN u):=by
 unfold x2N
 rw[fz_mod,fz_add]
theorem fz_vv (u:Nat):fz (vvN u)=fz (moN u)*fz (moN u)*fz (ivN u):=by
 unfold vvN
 rw[fz_mod,fz_mul,fz_mod,fz_mul]
theorem fz_x3 (u:Nat):fz (x3N u)=fz (vvN u)*fz (vvN u)*fz c4N+1:=by
 unfold x3N
 rw[fz_mod,fz_add,fz_mod,fz_mul,fz_mod,fz_mul];rfl
theorem fz_c2:4*(fz c2N*fz c2N)=1:=by
 show fz 4*(fz c2N*fz c2N)=fz 1
 rw[←fz_mul,←fz_mul,fz_eq]
 decide +kernel
theorem fz_c2':fz c2N+fz c2N= -1:=by
 have:fz c2N+fz c2N+1=0:=by
  show fz c2N+fz c2N+fz 1=fz 0
  rw[←fz_add,←fz_add,fz_eq]
  decide +kernel
 grobner
theorem fz_c3:fz c3N*fz c3N= -12:=by
 have:fz c3N*fz c3N+12=0:=by
  show fz c3N*fz c3N+fz 12=fz 0
  rw[←fz_mul,←fz_add,fz_eq]
  decide +kernel
 grobner
theorem fz_c4:3*fz c4N= -16:=by
 have:3*fz c4N+16=0:=by
  show fz 3*fz c4N+fz 16=fz 0
  rw[←fz_mul,←fz_add,fz_eq]
  decide +kernel
 grobner
theorem J_ne {a:Nat} (h:a%qN≠0):Nat.Coprime qN (a:Int).natAbs:=by rw[Int.natAbs_natCast];exact priN.cop_of h
theorem J_mod (a:Nat):J ((a%qN:Nat):Int) qN=J a qN:=by
 have e:((a%qN:Nat):Int)+(qN:Int)*((a / qN:Nat):Int)=(a:Int):=by rw[←Int.natCast_mul,←Int.natCast_add,Nat.mod_add_div]
 exact (J_period _).symm.trans (congrArg (fun z=>J z qN) e)
theorem J_mulN {a b:Nat} (ha:a%qN≠0) (hb:b%qN≠0):J ((a*b:Nat):Int) qN=J a qN*J b qN:=by
 rw[Int.natCast_mul]
 exact J_mul qN_odd (J_ne ha) (J_ne hb)
theorem J_self {a:Nat} (ha:a%qN≠0):J a qN*J a qN=1:=by
 rcases J_sq qN_odd (J_ne ha)with h | h<;>rw[h]<;>rfl
theorem lg_ne {a:Nat} (h:a<qN) (h1:lgN a= -1):a%qN≠0∧J a qN= -1:=by
 unfold lgN at h1
 by_cases h0:a=0
 ·rw[if_pos h0]at h1;exact absurd h1 (by decide)
 ·rw[if_neg h0]at h1
  exact ⟨by rw[Nat.mod_eq_of_lt h];exact h0,h1⟩
theorem mul_ne {a b:Nat} (ha:a%qN≠0) (hb:b%qN≠0):a*b%qN≠0:=by
 intro h
 have:=priN.cop_of ha
 have hd:qN ∣ a*b:=Nat.dvd_of_mod_eq_zero h
 exact hb (Nat.mod_eq_zero_of_dvd (Nat.Coprime.dvd_of_dvd_mul_left (show Nat.Coprime qN a from this) hd))
theorem three {s g1 g2 g3:Nat} (hs:s%qN≠0) (h1:g1<qN) (h2:g2<qN) (h3:g3<qN) (h:s*s*g3%qN=128*128*(g1*g2)%qN):¬(lgN g1= -1∧lgN g2= -1∧lgN g3= -1):=by
 rintro ⟨e1,e2,e3⟩
 obtain ⟨n1,j1⟩:=lg_ne h1 e1
 obtain ⟨n2,j2⟩:=lg_ne h2 e2
 obtain ⟨n3,j3⟩:=lg_ne h3 e3
 have n128:128%qN≠0:=by decide
 have l:J ((s*s*g3:Nat):Int) qN= -1:=by rw[J_mulN (mul_ne hs hs) n3,J_mulN hs hs,J_self hs,j3];rfl
 have r:J ((128*128*(g1*g2):Nat):Int) qN=1:=by rw[J_mulN (mul_ne n128 n128) (mul_ne n1 n2),J_mulN n128 n128,J_self n128,J_mulN n1 n2,j1,j2];rfl
 rw[←J_mod,h,J_mod,r]at l
 exact absurd l (by decide)
theorem fz_iv {u:Nat} (h:leN u*moN u%qN≠0):fz (ivN u)*(fz (leN u)*fz (moN u))=1:=by
 unfold ivN
 rw[←fz_mul,←fz_mod (leN u*moN u),←fz_mul]
 show _=fz 1
 rw[fz_eq,inv0_mul (by rw[Nat.mod_mod];exact h)]
 rfl
theorem svdw (u:Nat):sqN (gN (x1N u))=true∨sqN (gN (x2N u))=true∨sqN (gN (x3N u))=true:=by
 rw[sqN_iff (gN_lt _),sqN_iff (gN_lt _),sqN_iff (gN_lt _)]
 by_cases h0:leN u*moN u%qN=0
 ·right;right
  have hi:ivN u=0:=by unfold ivN;rw[h0];exact inv0_zero
  have hx:x3N u=1:=by unfold x3N vvN;rw[hi];simp;decide
  rw[hx,show gN 1=4 by decide]
  unfold lgN
  rw[if_neg (by decide),show ((4:Nat):Int)=((2*2:Nat):Int) by rfl,J_mulN (by decide) (by decide),J_self (by decide)]
  decide
 ·have hD:=fz_iv h0
  have hp:=svdw_p (fz_t u) (fz_mo u) (fz_le u) hD fz_c2 fz_c3 (fz_st u) (fz_x1 u) (fz_x2 u)
  have he:=svdw_e hD fz_c3 fz_c4 hp (fz_vv u) (fz_x3 u)
  have h16:fz 16*fz (inv0 16)=1:=by
   rw[←fz_mul]
   show _=fz 1
   rw[fz_eq]
   decide +kernel
  generalize hP:fz (x1N u)*fz (x2N u)-1=P at *
  have hpe:P*(fz (x3N u)-1)=4:=by
   have e1:fz 16*(P*(fz (x3N u)-1))=64:=by rw[←he];show (16:Fin qN)*_=_;grobner
   have e2:fz (inv0 16)*(fz 16*(P*(fz (x3N u)-1)))=fz (inv0 16)*64:=by rw[e1]
   have e3:fz (inv0 16)*64=4:=by
    show fz (inv0 16)*fz 64=fz 4
    rw[←fz_mul,fz_eq]
    decide +kernel
   rw[e3]at e2
   rw[←e2]
   grobner
  have hg:=svdw_g (p:=P) (x1:=fz (x1N u)) (x2:=fz (x2N u)) (x3:=fz (x3N u)) (e:=fz (x3N u)-1) (by rw[fz_x1,fz_x2];have:=fz_c2';grobner) hP.symm hpe (by grobner)
  rw[←fz_g,←fz_g,←fz_g]at hg
  have key:∀s:Nat,fz s=fz c3N*fz (leN u)*fz (leN u)*fz (ivN u)→(s*s*s)*(s*s*s)*gN (x3N u)%qN=128*128*(gN (x1N u)*gN (x2N u))%qN:=by
   intro s hs
   rw[←fz_eq]
   simp only[fz_mul,hs]
   rw[←hs]at hp
   rw[←hs]
   rw[show fz s*fz s*fz s*(fz s*fz s*fz s)=(fz s*fz s)*(fz s*fz s)*(fz s*fz s) by grobner,←hp,
    show 16*P*(16*P)*(16*P)*fz (gN (x3N u))=16*16*16*(P*P*P*fz (gN (x3N u))) by grobner,hg,show fz 128=128 from rfl]
   grobner
  have k:=key (c3N*leN u*leN u*ivN u) (by simp only[fz_mul])
  have hs0:(c3N*leN u*leN u*ivN u)%qN≠0:=by
   intro h
   have:fz (c3N*leN u*leN u*ivN u)=fz 0:=fz_eq.2 (by rw[h];rfl)
   simp only[fz_mul]at this
   rw[this,show fz 0=0 from rfl]at hp
   have h64:(64:Fin qN)=0:=by rw[←he,hp];grobner
   exact absurd h64 (by decide)
  have t:=three (mul_ne (mul_ne hs0 hs0) hs0) (gN_lt _) (gN_lt _) (gN_lt _) k
  by_cases a:lgN (gN (x1N u))= -1
  ·by_cases b:lgN (gN (x2N u))= -1
   ·exact .inr (.inr fun c=>t ⟨a,b,c⟩)
   ·exact .inr (.inl b)
  ·exact .inl a
end Go.Sx
namespace Go.Sx
open Go Go.Proofs Go.Num
set_option maxRecDepth 100000
theorem hvm_lt {X:Nat} (h:X<qN):hvm X qN<qN:=by
 unfold hvm
 split<;>omega
theorem hv_cong {X A U:Nat} (h:X*A%qN=U%qN) (hU:U%2=0):hvm X qN*A%qN=U / 2%qN:=by
 refine fz_half h ?_ (by rw[show 2*(U / 2)=U by omega])
 unfold hvm
 split
 ·rw[show 2*((X+qN) / 2)=X+qN by have:=qN_odd;omega,fz_add,show fz qN=0 from fz_q 1]
  grobner
 ·rw[show 2*(X / 2)=X by omega]
theorem sub_cong {X Y A U V:Nat} (hX:X<qN) (h:X*A%qN=U%qN) (g:Y*A%qN=V%qN) (hUV:U≤V):(((Y:Int)-(X:Int))%(qN:Int)).toNat*A%qN=(V-U)%qN:=by
 rw[sub_int hX]
 have h1:=fz_eq.2 h
 have g1:=fz_eq.2 g
 have e:fz (V-U)+fz U=fz V:=by rw[←fz_add,Nat.sub_add_cancel hUV]
 rw[fz_mul]at h1 g1
 rw[←fz_eq,fz_mul,fz_mod,fz_sub (Nat.le_of_lt hX)]
 grobner
theorem gcd_half {U V:Nat} (h:Nat.gcd U V=1) (hU:U%2=0):Nat.gcd (U / 2) V=1∧V%2=1:=by
 have hd:U / 2 ∣ U:=⟨2,by omega⟩
 refine ⟨Nat.eq_one_of_dvd_one (h ▸ Nat.gcd_dvd_gcd_of_dvd_left V hd),?_⟩
 rcases Nat.mod_two_eq_zero_or_one V with e | e
 ·have:2 ∣ Nat.gcd U V:=Nat.dvd_gcd (Nat.dvd_of_mod_eq_zero hU) (Nat.dvd_of_mod_eq_zero e)
  rw[h]at this
  exact absurd (Nat.le_of_dvd (by decide) this) (by decide)
 ·exact e
structure ImP (A U V X Y:Nat):Prop where
 u:0<U
 v:0<V
 g:Nat.gcd U V=1
 x:X<qN
 y:Y<qN
 ex:X*A%qN=U%qN
 ey:Y*A%qN=V%qN
theorem ImP.first {A:Nat} (h0:0<A) (h:A<qN):ImP A A qN 1 0 where
 u:=h0
 v:=by decide
 g:=by rw[Nat.gcd_comm];exact pri_q.cop h0 h
 x:=by decide
 y:=by decide
 ex:=by rw[Nat.one_mul]
 ey:=by rw[Nat.zero_mul];rfl
structure I1P (A u0 V U X:Nat):Prop where
 u:0<U
 l:U≤u0
 g:Nat.gcd U V=1
 x:X<qN
 ex:X*A%qN=U%qN
 o:U≠1∨V%2=1
theorem ImP.in1 {A U V X Y:Nat} (h:ImP A U V X Y) (hU:U≠1):I1P A U V U X:=⟨h.u,Nat.le_refl _,h.g,h.x,h.ex,.inl hU⟩
theorem I1P.step {A u0 V U X:Nat} (h:I1P A u0 V U X) (he:U%2=0):I1P A u0 V (U / 2) (hvm X qN) where
 u:=by have:=h.u;omega
 l:=by have:=h.l;omega
 g:=(gcd_half h.g he).1
 x:=hvm_lt h.x
 ex:=hv_cong h.ex he
 o:= .inr (gcd_half h.g he).2
structure I2P (A U v0 V Y:Nat):Prop where
 v:0<V
 l:V≤v0
 g:Nat.gcd U V=1
 y:Y<qN
 ey:Y*A%qN=V%qN
 o:U≠1∨(V%2=1∧V≠1)
theorem ImP.in2 {A u0 U V X0 X Y:Nat} (h:ImP A u0 V X0 Y) (h1:I1P A u0 V U X) (hV:V≠1):I2P A U V V Y:=⟨h.v,Nat.le_refl _,h1.g,h.y,h.ey,h1.o.elim .inl fun e=> .inr ⟨e,hV⟩⟩
theorem I2P.step {A U v0 V Y:Nat} (h:I2P A U v0 V Y) (he:V%2=0):I2P A U v0 (V / 2) (hvm Y qN) where
 v:=by have:=h.v;omega
 l:=by have:=h.l;omega
 g:=by rw[Nat.gcd_comm];exact (gcd_half (by rw[Nat.gcd_comm];exact h.g) he).1
 y:=hvm_lt h.y
 ey:=hv_cong h.ey he
 o:=h.o.elim .inl fun e=>absurd e.1 (by omega)
theorem out_ne {A U u0 v0 V0 V X Y:Nat} (h1:I1P A u0 V0 U X) (h2:I2P A U v0 V Y) (ho:V%2=1):U≠V:=by
 intro e
 have g:=h2.g
 rw[e,Nat.gcd_self]at g
 have:=h2.o
 omega
theorem out_lt {A U u0 v0 V0 V X Y:Nat} (h1:I1P A u0 V0 U X) (h2:I2P A U v0 V Y) (h:U<V):ImP A U (V-U) X (((Y:Int)-(X:Int))%(qN:Int)).toNat where
 u:=h1.u
 v:=by omega
 g:=by rw[Nat.gcd_sub_self_right (Nat.le_of_lt h)];exact h2.g
 x:=h1.x
 y:=by rw[sub_int h1.x];exact Nat.mod_lt _ (by decide)
 ex:=h1.ex
 ey:=sub_cong h1.x h1.ex h2.ey (Nat.le_of_lt h)
theorem out_gt {A U u0 v0 V0 V X Y:Nat} (h1:I1P A u0 V0 U X) (h2:I2P A U v0 V Y) (h:V<U):ImP A (U-V) V (((X:Int)-(Y:Int))%(qN:Int)).toNat Y where
 u:=by omega
 v:=h2.v
 g:=by rw[Nat.gcd_comm,Nat.gcd_sub_self_right (Nat.le_of_lt h),Nat.gcd_comm];exact h2.g
 x:=by rw[sub_int h2.y];exact Nat.mod_lt _ (by decide)
 y:=h2.y
 ex:=sub_cong h2.y h2.ey h1.ex (Nat.le_of_lt h)
 ey:=h2.ey
theorem vc_im (S:ImI→Prop) (T R:Int→Int→InI→Prop) (a0 a1 a2 a3 m0 m1 m2 m3:Int) (K:SV→Mem→Prop):(execF cxIm (uIm S T R) Tryz.f20 64 [ag4 a0 a1 a2 a3,ag4 m0 m1 m2 m3] (memL []) K)=(∀x0,x0=a0→∀x1,x1=a1→∀
 x2,x2=a2→∀x3,x3=a3→∀x4,x4=m0→∀x5,x5=m1→∀x6,x6=m2→∀x7,x7=m3→∀x8,x8=a0→∀x9,x9=a1→∀br,br=a2→∀bs,bs=a3→(decide ([x8,x9,br,bs]= [(0:Int),(0:Int),(0:Int),(0:Int)])=true
 →K (.agg [.int .u64 (.lit 0),.int .u64 (.lit 0),.int .u64 (.lit 0),.int .u64 (.lit 0)]) (memL [(513,⟨false,.cells [.int .u64 (.sym a0),.int .u64 (.sym a1),.int .u64 (.sym a2),.int .u64 (.sym a3)]⟩),(521,⟨false,.cells [.int .u64
 (.sym m0),.int .u64 (.sym m1),.int .u64 (.sym m2),.int .u64 (.sym m3)]⟩),(529,⟨false,.cells [.int .u64 (.lit 0),.int .u64 (.lit 0),.int .u64 (.lit 0),.int .u64 (.lit 0)]⟩),(569,⟨false,.cells [.int .u64 (.sym x0),.int .u64
 (.sym x1),.int .u64 (.sym x2),.int .u64 (.sym x3)]⟩),(577,⟨false,.cells [.int .u64 (.sym x4),.int .u64 (.sym x5),.int .u64 (.sym x6),.int .u64 (.sym x7)]⟩),(585,⟨false,.cells [.int .u64 (.lit 1),.int .u64 (.lit 0),.int .u64
 (.lit 0),.int .u64 (.lit 0)]⟩),(593,⟨false,.cells [.int .u64 (.lit 0),.int .u64 (.lit 0),.int .u64 (.lit 0),.int .u64 (.lit 0)]⟩)]))∧(decide ([x8,x9,br,bs]= [(0:Int),(0:Int),(0:Int),(0:Int)])=false→((∃f:ImI,
 S f∧(a0=a0∧a1=a1∧a2=a2∧a3=a3)∧(m0=m0∧m1=m1∧m2=m2∧m3=m3)∧(x0=ImI.u0 f∧x1=ImI.u1 f∧x2=ImI.u2 f∧x3=ImI.u3 f)∧(x4=ImI.v0 f∧x5=ImI.v1 f∧x6=ImI.v2 f∧x7=ImI.v3 f)∧(1=ImI.x0 f∧0
 =ImI.x1 f∧0=ImI.x2 f∧0=ImI.x3 f)∧0=ImI.y0 f∧0=ImI.y1 f∧0=ImI.y2 f∧0=ImI.y3 f)∧∀a:ImI,S a→∀bt,bt=ImI.u0 a→∀bu,bu=ImI.u1 a→∀bv,bv=ImI.u2 a→∀bw,bw=ImI.u3 a→(Bool.not (decide ([bt,bu,
 bv,bw]= [(1:Int),(0:Int),(0:Int),(0:Int)]))=true→∀bx,bx=ImI.v0 a→∀bz,bz=ImI.v1 a→∀b0,b0=ImI.v2 a→∀b1,b1=ImI.v3 a→(Bool.not (decide ([bx,bz,b0,b1]= [(1:Int),(0:Int),(0:Int),(0:Int)]))
 =true→((∃i:InI,T (V4 (ImI.u0 a) (ImI.u1 a) (ImI.u2 a) (ImI.u3 a)) (V4 (ImI.v0 a) (ImI.v1 a) (ImI.v2 a) (ImI.v3 a)) i∧(a0=a0∧a1=a1∧a2=a2∧a3=a3)∧(m0=m0∧m1=m1∧m2=m2∧m3=m3)∧(ImI.v0 a=ImI.v0 a∧ImI.v1
 a=ImI.v1 a∧ImI.v2 a=ImI.v2 a∧ImI.v3 a=ImI.v3 a)∧(ImI.y0 a=ImI.y0 a∧ImI.y1 a=ImI.y1 a∧ImI.y2 a=ImI.y2 a∧ImI.y3 a=ImI.y3 a)∧(ImI.u0 a=InI.u0 i∧ImI.u1 a=InI.u1 i∧ImI.u2 a=InI.u2 i∧ImI.u3 a=InI.u3 i)∧
 ImI.x0 a=InI.x0 i∧ImI.x1 a=InI.x1 i∧ImI.x2 a=InI.x2 i∧ImI.x3 a=InI.x3 i)∧∀b:InI,T (V4 (ImI.u0 a) (ImI.u1 a) (ImI.u2 a) (ImI.u3 a)) (V4 (ImI.v0 a) (ImI.v1 a) (ImI.v2 a) (ImI.v3 a)) b→∀b2,b2=Int.tmod (InI.u0 b) (2:
 Int)→((b2==0)=true→∀I,I=InI.u0 b→∀J,J=InI.u1 b→∀L,L=InI.u2 b→∀M,M=InI.u3 b→((Wd I∧Wd J∧Wd L∧Wd M)∧∀cs,cs=lm (Int.toNat (V4 I J L M) / 2) 0→∀ct,ct=lm (Int.toNat (V4 I J L M) / 2) 1→∀cu,
 cu=lm (Int.toNat (V4 I J L M) / 2) 2→∀cv,cv=lm (Int.toNat (V4 I J L M) / 2) 3→∀N,N=InI.x0 b→∀O,O=InI.x1 b→∀Q,Q=InI.x2 b→∀V,V=InI.x3 b→∀X,X=m0→∀Y,Y=m1→∀Z,Z=m2→∀aa,aa=m3→(((Wd N∧Wd
 O∧Wd Q∧Wd V)∧Wd X∧Wd Y∧Wd Z∧Wd aa)∧∀cw,cw=lm (hvm (Int.toNat (V4 N O Q V)) (Int.toNat (V4 X Y Z aa))) 0→∀cx,cx=lm (hvm (Int.toNat (V4 N O Q V)) (Int.toNat (V4 X Y Z aa))) 1→∀cy,cy=lm (hvm (Int.toNat (V4 N O Q
 V)) (Int.toNat (V4 X Y Z aa))) 2→∀cz,cz=lm (hvm (Int.toNat (V4 N O Q V)) (Int.toNat (V4 X Y Z aa))) 3→∃g:InI,T (V4 (ImI.u0 a) (ImI.u1 a) (ImI.u2 a) (ImI.u3 a)) (V4 (ImI.v0 a) (ImI.v1 a) (ImI.v2 a) (ImI.v3 a)) g∧((a0=a0∧a1
 =a1∧a2=a2∧a3=a3)∧(m0=m0∧m1=m1∧m2=m2∧m3=m3)∧(ImI.v0 a=ImI.v0 a∧ImI.v1 a=ImI.v1 a∧ImI.v2 a=ImI.v2 a∧ImI.v3 a=ImI.v3 a)∧(ImI.y0 a=ImI.y0 a∧ImI.y1 a=ImI.y1 a∧ImI.y2 a=ImI.y2 a∧ImI.y3 a=
 ImI.y3 a)∧(cs=InI.u0 g∧ct=InI.u1 g∧cu=InI.u2 g∧cv=InI.u3 g)∧cw=InI.x0 g∧cx=InI.x1 g∧cy=InI.x2 g∧cz=InI.x3 g)∧Int.toNat (V4 (InI.u0 g) (InI.u1 g) (InI.u2 g) (InI.u3 g))<Int.toNat (V4 (InI.u0 b) (InI.u1 b)
 (InI.u2 b) (InI.u3 b)))))∧((b2==0)=false→((∃j:InI,R (V4 (InI.u0 b) (InI.u1 b) (InI.u2 b) (InI.u3 b)) (V4 (ImI.v0 a) (ImI.v1 a) (ImI.v2 a) (ImI.v3 a)) j∧(a0=a0∧a1=a1∧a2=a2∧a3=a3)∧(m0=m0∧m1=m1∧m2=m2∧
 m3=m3)∧(InI.u0 b=InI.u0 b∧InI.u1 b=InI.u1 b∧InI.u2 b=InI.u2 b∧InI.u3 b=InI.u3 b)∧(InI.x0 b=InI.x0 b∧InI.x1 b=InI.x1 b∧InI.x2 b=InI.x2 b∧InI.x3 b=InI.x3 b)∧(ImI.v0 a=InI.u0 j∧ImI.v1 a=InI.u1 j∧
 ImI.v2 a=InI.u2 j∧ImI.v3 a=InI.u3 j)∧ImI.y0 a=InI.x0 j∧ImI.y1 a=InI.x1 j∧ImI.y2 a=InI.x2 j∧ImI.y3 a=InI.x3 j)∧∀c:InI,R (V4 (InI.u0 b) (InI.u1 b) (InI.u2 b) (InI.u3 b)) (V4 (ImI.v0 a) (ImI.v1 a) (ImI.v2 a)
 (ImI.v3 a)) c→∀b3,b3=Int.tmod (InI.u0 c) (2:Int)→((b3==0)=true→∀ab,ab=InI.u0 c→∀ac,ac=InI.u1 c→∀ad,ad=InI.u2 c→∀ae,ae=InI.u3 c→((Wd ab∧Wd ac∧Wd ad∧Wd ae)∧∀c0,c0=lm (Int.toNat (V4 ab ac ad
 ae) / 2) 0→∀c1,c1=lm (Int.toNat (V4 ab ac ad ae) / 2) 1→∀c2,c2=lm (Int.toNat (V4 ab ac ad ae) / 2) 2→∀c3,c3=lm (Int.toNat (V4 ab ac ad ae) / 2) 3→∀af,af=InI.x0 c→∀ag,ag=InI.x1 c→∀ah,ah=InI.x2 c→∀ai,
 ai=InI.x3 c→∀aj,aj=m0→∀ak,ak=m1→∀al,al=m2→∀am,am=m3→(((Wd af∧Wd ag∧Wd ah∧Wd ai)∧Wd aj∧Wd ak∧Wd al∧Wd am)∧∀c4,c4=lm (hvm (Int.toNat (V4 af ag ah ai)) (Int.toNat (V4 aj ak al am))) 0→∀c5,c5
 =lm (hvm (Int.toNat (V4 af ag ah ai)) (Int.toNat (V4 aj ak al am))) 1→∀c6,c6=lm (hvm (Int.toNat (V4 af ag ah ai)) (Int.toNat (V4 aj ak al am))) 2→∀c7,c7=lm (hvm (Int.toNat (V4 af ag ah ai)) (Int.toNat (V4 aj ak al am))) 3→∃
 h:InI,R (V4 (InI.u0 b) (InI.u1 b) (InI.u2 b) (InI.u3 b)) (V4 (ImI.v0 a) (ImI.v1 a) (ImI.v2 a) (ImI.v3 a)) h∧((a0=a0∧a1=a1∧a2=a2∧a3=a3)∧(m0=m0∧m1=m1∧m2=m2∧m3=m3)∧(InI.u0 b=InI.u0 b∧InI.u1 b=InI.u1
 b∧InI.u2 b=InI.u2 b∧InI.u3 b=InI.u3 b)∧(InI.x0 b=InI.x0 b∧InI.x1 b=InI.x1 b∧InI.x2 b=InI.x2 b∧InI.x3 b=InI.x3 b)∧(c0=InI.u0 h∧c1=InI.u1 h∧c2=InI.u2 h∧c3=InI.u3 h)∧c4=InI.x0 h∧c5=InI.x1 h∧c6
 =InI.x2 h∧c7=InI.x3 h)∧Int.toNat (V4 (InI.u0 h) (InI.u1 h) (InI.u2 h) (InI.u3 h))<Int.toNat (V4 (InI.u0 c) (InI.u1 c) (InI.u2 c) (InI.u3 c)))))∧((b3==0)=false→∀a9,a9=InI.u0 b→∀ba,ba=InI.u1 b→∀bb,bb=InI.u2 b
 →∀bc,bc=InI.u3 b→∀bd,bd=InI.u0 c→∀be,be=InI.u1 c→∀bf,bf=InI.u2 c→∀bg,bg=InI.u3 c→((Wd a9∧Wd ba∧Wd bb∧Wd bc)∧Wd bd∧Wd be∧Wd bf∧Wd bg)∧(decide (V4 a9 ba bb bc<V4 bd be bf bg)=true→∀an,an
 =InI.u0 c→∀ao,ao=InI.u1 c→∀ap,ap=InI.u2 c→∀aq,aq=InI.u3 c→∀ar,ar=InI.u0 b→∀au,au=InI.u1 b→∀av,av=InI.u2 b→∀aw,aw=InI.u3 b→(((Wd an∧Wd ao∧Wd ap∧Wd aq)∧Wd ar∧Wd au∧Wd av∧Wd aw)∧∀
 c8,c8=lm (w256 (V4 an ao ap aq-V4 ar au av aw)) 0→∀c9,c9=lm (w256 (V4 an ao ap aq-V4 ar au av aw)) 1→∀da,da=lm (w256 (V4 an ao ap aq-V4 ar au av aw)) 2→∀db,db=lm (w256 (V4 an ao ap aq-V4 ar au av aw)) 3→∀s,
 s=InI.x0 c→∀t,t=InI.x1 c→∀u,u=InI.x2 c→∀v,v=InI.x3 c→∀w,w=InI.x0 b→∀x,x=InI.x1 b→∀y,y=InI.x2 b→∀z,z=InI.x3 b→∀k,k=m0→∀l,l=m1→∀m,m=m2→∀n,n=m3→((((Wd s∧Wd t∧Wd u∧Wd
 v)∧(Wd w∧Wd x∧Wd y∧Wd z)∧Wd k∧Wd l∧Wd m∧Wd n)∧V4 s t u v<V4 k l m n∧V4 w x y z<V4 k l m n)∧∀dc,dc=lm (Int.toNat ((V4 s t u v-V4 w x y z)%V4 k l m n)) 0→∀dd,dd=lm (Int.toNat ((V4 s t u v-V4 w x y z)
 % V4 k l m n)) 1→∀de,de=lm (Int.toNat ((V4 s t u v-V4 w x y z)%V4 k l m n)) 2→∀df,df=lm (Int.toNat ((V4 s t u v-V4 w x y z)%V4 k l m n)) 3→∃d:ImI,S d∧((a0=a0∧a1=a1∧a2=a2∧a3=a3)∧(m0=m0∧m1=m1
 ∧m2=m2∧m3=m3)∧(InI.u0 b=ImI.u0 d∧InI.u1 b=ImI.u1 d∧InI.u2 b=ImI.u2 d∧InI.u3 b=ImI.u3 d)∧(c8=ImI.v0 d∧c9=ImI.v1 d∧da=ImI.v2 d∧db=ImI.v3 d)∧(InI.x0 b=ImI.x0 d∧InI.x1 b=ImI.x1 d∧InI.x2 b=
 ImI.x2 d∧InI.x3 b=ImI.x3 d)∧dc=ImI.y0 d∧dd=ImI.y1 d∧de=ImI.y2 d∧df=ImI.y3 d)∧Int.toNat (V4 (ImI.u0 d) (ImI.u1 d) (ImI.u2 d) (ImI.u3 d)+V4 (ImI.v0 d) (ImI.v1 d) (ImI.v2 d) (ImI.v3 d))<Int.toNat (V4 (ImI.u0 a)
 (ImI.u1 a) (ImI.u2 a) (ImI.u3 a)+V4 (ImI.v0 a) (ImI.v1 a) (ImI.v2 a) (ImI.v3 a)))))∧(decide (V4 a9 ba bb bc<V4 bd be bf bg)=false→∀ax,ax=InI.u0 b→∀ay,ay=InI.u1 b→∀az,az=InI.u2 b→∀a4,a4=InI.u3 b→∀a5,a5=
 InI.u0 c→∀a6,a6=InI.u1 c→∀a7,a7=InI.u2 c→∀a8,a8=InI.u3 c→(((Wd ax∧Wd ay∧Wd az∧Wd a4)∧Wd a5∧Wd a6∧Wd a7∧Wd a8)∧∀dg,dg=lm (w256 (V4 ax ay az a4-V4 a5 a6 a7 a8)) 0→∀dh,dh=lm (w256 (V4 ax ay az
 a4-V4 a5 a6 a7 a8)) 1→∀di,di=lm (w256 (V4 ax ay az a4-V4 a5 a6 a7 a8)) 2→∀dj,dj=lm (w256 (V4 ax ay az a4-V4 a5 a6 a7 a8)) 3→∀A,A=InI.x0 b→∀B,B=InI.x1 b→∀C,C=InI.x2 b→∀D,D=InI.x3 b→∀E,E=InI.x0
 c→∀F,F=InI.x1 c→∀G,G=InI.x2 c→∀H,H=InI.x3 c→∀o,o=m0→∀p,p=m1→∀q,q=m2→∀r,r=m3→((((Wd A∧Wd B∧Wd C∧Wd D)∧(Wd E∧Wd F∧Wd G∧Wd H)∧Wd o∧Wd p∧Wd q∧Wd r)∧V4 A B C D<V4 o p q r∧
 V4 E F G H<V4 o p q r)∧∀dk,dk=lm (Int.toNat ((V4 A B C D-V4 E F G H)%V4 o p q r)) 0→∀dl,dl=lm (Int.toNat ((V4 A B C D-V4 E F G H)%V4 o p q r)) 1→∀dm,dm=lm (Int.toNat ((V4 A B C D-V4 E F G H)%V4 o p q r)) 2→
 ∀dn,dn=lm (Int.toNat ((V4 A B C D-V4 E F G H)%V4 o p q r)) 3→∃e:ImI,S e∧((a0=a0∧a1=a1∧a2=a2∧a3=a3)∧(m0=m0∧m1=m1∧m2=m2∧m3=m3)∧(dg=ImI.u0 e∧dh=ImI.u1 e∧di=ImI.u2 e∧dj=ImI.u3 e)∧
 (InI.u0 c=ImI.v0 e∧InI.u1 c=ImI.v1 e∧InI.u2 c=ImI.v2 e∧InI.u3 c=ImI.v3 e)∧(dk=ImI.x0 e∧dl=ImI.x1 e∧dm=ImI.x2 e∧dn=ImI.x3 e)∧InI.x0 c=ImI.y0 e∧InI.x1 c=ImI.y1 e∧InI.x2 c=ImI.y2 e∧InI.x3 c=ImI.y3
 e)∧Int.toNat (V4 (ImI.u0 e) (ImI.u1 e) (ImI.u2 e) (ImI.u3 e)+V4 (ImI.v0 e) (ImI.v1 e) (ImI.v2 e) (ImI.v3 e))<Int.toNat (V4 (ImI.u0 a) (ImI.u1 a) (ImI.u2 a) (ImI.u3 a)+V4 (ImI.v0 a) (ImI.v1 a) (ImI.v2 a) (ImI.v3 a))))))))))∧
 (Bool.not (decide ([bx,bz,b0,b1]= [(1:Int),(0:Int),(0:Int),(0:Int)]))=false→∀b4,b4=ImI.u0 a→∀b5,b5=ImI.u1 a→∀b6,b6=ImI.u2 a→∀b7,b7=ImI.u3 a→(decide ([b4,b5,b6,b7]= [(1:Int),(0:Int),(0:
 Int),(0:Int)])=true→∀b8,b8=ImI.x0 a→∀b9,b9=ImI.x1 a→∀ca,ca=ImI.x2 a→∀cb,cb=ImI.x3 a→K (.agg [.int .u64 (.sym b8),.int .u64 (.sym b9),.int .u64 (.sym ca),.int .u64 (.sym cb)]) (memL [(513,⟨false,.cells
 [.int .u64 (.sym a0),.int .u64 (.sym a1),.int .u64 (.sym a2),.int .u64 (.sym a3)]⟩),(521,⟨false,.cells [.int .u64 (.sym m0),.int .u64 (.sym m1),.int .u64 (.sym m2),.int .u64 (.sym m3)]⟩),(529,⟨false,.cells [.int .u64 (.sym b8),
 .int .u64 (.sym b9),.int .u64 (.sym ca),.int .u64 (.sym cb)]⟩),(569,⟨false,.cells [.int .u64 (.sym (ImI.u0 a)),.int .u64 (.sym (ImI.u1 a)),.int .u64 (.sym (ImI.u2 a)),.int .u64 (.sym (ImI.u3 a))]⟩),(577,⟨false,.cells [.int .u64
 (.sym (ImI.v0 a)),.int .u64 (.sym (ImI.v1 a)),.int .u64 (.sym (ImI.v2 a)),.int .u64 (.sym (ImI.v3 a))]⟩),(585,⟨false,.cells [.int .u64 (.sym (ImI.x0 a)),.int .u64 (.sym (ImI.x1 a)),.int .u64 (.sym (ImI.x2 a)),.int .u64 (.sym
 (ImI.x3 a))]⟩),(593,⟨false,.cells [.int .u64 (.sym (ImI.y0 a)),.int .u64 (.sym (ImI.y1 a)),.int .u64 (.sym (ImI.y2 a)),.int .u64 (.sym (ImI.y3 a))]⟩)]))∧(decide ([b4,b5,b6,b7]= [(1:Int),(0:Int),(0:Int),(0:Int)])=
 false→∀cc,cc=ImI.y0 a→∀cd,cd=ImI.y1 a→∀ce,ce=ImI.y2 a→∀cf,cf=ImI.y3 a→K (.agg [.int .u64 (.sym cc),.int .u64 (.sym cd),.int .u64 (.sym ce),.int .u64 (.sym cf)]) (memL [(513,⟨false,.cells [.int .u64 (.sym a0),
 .int .u64 (.sym a1),.int .u64 (.sym a2),.int .u64 (.sym a3)]⟩),(521,⟨false,.cells [.int .u64 (.sym m0),.int .u64 (.sym m1),.int .u64 (.sym m2),.int .u64 (.sym m3)]⟩),(529,⟨false,.cells [.int .u64 (.sym cc),.int .u64 (.sym cd),
 .int .u64 (.sym ce),.int .u64 (.sym cf)]⟩),(569,⟨false,.cells [.int .u64 (.sym (ImI.u0 a)),.int .u64 (.sym (ImI.u1 a)),.int .u64 (.sym (ImI.u2 a)),.int .u64 (.sym (ImI.u3 a))]⟩),(577,⟨false,.cells [.int .u64 (.sym (ImI.v0 a)),
 .int .u64 (.sym (ImI.v1 a)),.int .u64 (.sym (ImI.v2 a)),.int .u64 (.sym (ImI.v3 a))]⟩),(585,⟨false,.cells [.int .u64 (.sym (ImI.x0 a)),.int .u64 (.sym (ImI.x1 a)),.int .u64 (.sym (ImI.x2 a)),.int .u64 (.sym (ImI.x3 a))]⟩),(593,
 ⟨false,.cells [.int .u64 (.sym (ImI.y0 a)),.int .u64 (.sym (ImI.y1 a)),.int .u64 (.sym (ImI.y2 a)),.int .u64 (.sym (ImI.y3 a))]⟩)]))))∧(Bool.not (decide ([bt,bu,bv,bw]= [(1:Int),(0:Int),(0:Int),(0:Int)]))=false→∀
 cg,cg=ImI.u0 a→∀ch,ch=ImI.u1 a→∀ci,ci=ImI.u2 a→∀cj,cj=ImI.u3 a→(decide ([cg,ch,ci,cj]= [(1:Int),(0:Int),(0:Int),(0:Int)])=true→∀ck,ck=ImI.x0 a→∀cl,cl=ImI.x1 a→∀cm,cm=ImI.x2 a→∀
 cn,cn=ImI.x3 a→K (.agg [.int .u64 (.sym ck),.int .u64 (.sym cl),.int .u64 (.sym cm),.int .u64 (.sym cn)]) (memL [(513,⟨false,.cells [.int .u64 (.sym a0),.int .u64 (.sym a1),.int .u64 (.sym a2),.int .u64 (.sym a3)]⟩),(521,
 ⟨false,.cells [.int .u64 (.sym m0),.int .u64 (.sym m1),.int .u64 (.sym m2),.int .u64 (.sym m3)]⟩),(529,⟨false,.cells [.int .u64 (.sym ck),.int .u64 (.sym cl),.int .u64 (.sym cm),.int .u64 (.sym cn)]⟩),(569,⟨false,.cells [.int
 .u64 (.sym (ImI.u0 a)),.int .u64 (.sym (ImI.u1 a)),.int .u64 (.sym (ImI.u2 a)),.int .u64 (.sym (ImI.u3 a))]⟩),(577,⟨false,.cells [.int .u64 (.sym (ImI.v0 a)),.int .u64 (.sym (ImI.v1 a)),.int .u64 (.sym (ImI.v2 a)),.int .u64 (.sym
 (ImI.v3 a))]⟩),(585,⟨false,.cells [.int .u64 (.sym (ImI.x0 a)),.int .u64 (.sym (ImI.x1 a)),.int .u64 (.sym (ImI.x2 a)),.int .u64 (.sym (ImI.x3 a))]⟩),(593,⟨false,.cells [.int .u64 (.sym (ImI.y0 a)),.int .u64 (.sym (ImI.y1 a)),
 .int .u64 (.sym (ImI.y2 a)),.int .u64 (.sym (ImI.y3 a))]⟩)]))∧(decide ([cg,ch,ci,cj]= [(1:Int),(0:Int),(0:Int),(0:Int)])=false→∀co,co=ImI.y0 a→∀cp,cp=ImI.y1 a→∀cq,cq=ImI.y2 a→∀cr,cr=ImI.y3 a→K
 (.agg [.int .u64 (.sym co),.int .u64 (.sym cp),.int .u64 (.sym cq),.int .u64 (.sym cr)]) (memL [(513,⟨false,.cells [.int .u64 (.sym a0),.int .u64 (.sym a1),.int .u64 (.sym a2),.int .u64 (.sym a3)]⟩),(521,⟨false,.cells [.int .u64
 (.sym m0),.int .u64 (.sym m1),.int .u64 (.sym m2),.int .u64 (.sym m3)]⟩),(529,⟨false,.cells [.int .u64 (.sym co),.int .u64 (.sym cp),.int .u64 (.sym cq),.int .u64 (.sym cr)]⟩),(569,⟨false,.cells [.int .u64 (.sym (ImI.u0 a)),
 .int .u64 (.sym (ImI.u1 a)),.int .u64 (.sym (ImI.u2 a)),.int .u64 (.sym (ImI.u3 a))]⟩),(577,⟨false,.cells [.int .u64 (.sym (ImI.v0 a)),.int .u64 (.sym (ImI.v1 a)),.int .u64 (.sym (ImI.v2 a)),.int .u64 (.sym (ImI.v3 a))]⟩),(585,
 ⟨false,.cells [.int .u64 (.sym (ImI.x0 a)),.int .u64 (.sym (ImI.x1 a)),.int .u64 (.sym (ImI.x2 a)),.int .u64 (.sym (ImI.x3 a))]⟩),(593,⟨false,.cells [.int .u64 (.sym (ImI.y0 a)),.int .u64 (.sym (ImI.y1 a)),.int .u64 (.sym (ImI.y2
 a)),.int .u64 (.sym (ImI.y3 a))]⟩)])))))):=by kernel_rfl
theorem list_lit {a b c d:Int} {A:Nat} (h:Ws a b c d A) (n:Int) (h0:0≤n) (h1:n<18446744073709551616): [a,b,c,d]= [n,0,0,0]↔(A:Int)=n:=by
 obtain ⟨wa,wb,wc,wd⟩:=h.wd
 rw[←h.val]
 simp only[List.cons.injEq,and_true]
 unfold Wd at *
 unfold V4
 omega
def ImT (A:Nat) (u0 v:Int) (i:InI):Prop:=∃U X,Ws i.u0 i.u1 i.u2 i.u3 U∧Ws i.x0 i.x1 i.x2 i.x3 X∧I1P A u0.toNat v.toNat U X
def ImR (A:Nat) (u v0:Int) (i:InI):Prop:=∃V Y,Ws i.u0 i.u1 i.u2 i.u3 V∧Ws i.x0 i.x1 i.x2 i.x3 Y∧I2P A u.toNat v0.toNat V Y
def ImS (A:Nat) (i:ImI):Prop:=∃U V X Y,(Ws i.u0 i.u1 i.u2 i.u3 U∧Ws i.v0 i.v1 i.v2 i.v3 V∧Ws i.x0 i.x1 i.x2 i.x3 X∧Ws i.y0 i.y1 i.y2 i.y3 Y)∧ImP A U V X Y
theorem ws_q {x:Nat} (h:x<qN):Ws (lm x 0) (lm x 1) (lm x 2) (lm x 3) x:=ws_lm (Nat.lt_trans h (by decide))
theorem ws_dec {a b c d:Int} {A:Nat} (h:Ws a b c d A):Ws (lm (A / 2) 0) (lm (A / 2) 1) (lm (A / 2) 2) (lm (A / 2) 3) (A / 2):=ws_lm (Nat.lt_of_le_of_lt (Nat.div_le_self _ _) h.lt)
theorem par {a b c d:Int} {A:Nat} (h:Ws a b c d A):Int.tmod a 2=((A%2:Nat):Int):=by
 have w:=h.wd.1
 have v:=h.val
 unfold Wd at w
 unfold V4 at v
 rw[Int.tmod_eq_emod_of_nonneg w.1]
 omega
theorem w256_sub {A B:Nat} (h:B≤A) (hA:A<115792089237316195423570985008687907853269984665640564039457584007913129639936):w256 ((A:Int)-(B:Int))=A-B:=by
 unfold w256
 omega
theorem im_walk {A:Nat} {a0 a1 a2 a3 m0 m1 m2 m3:Int} {K:SV→Mem→Prop} (ha:Ws a0 a1 a2 a3 A) (hm:Ws m0 m1 m2 m3 qN) (hA:A<qN)
  (hK:A≠0→∀x0 x1 x2 x3,Ws x0 x1 x2 x3 (inv0 A)→∀m,K (ag4 x0 x1 x2 x3) m) (h0:A=0→∀m,K (.agg [.int .u64 (.lit 0),.int .u64 (.lit 0),.int .u64 (.lit 0),.int .u64 (.lit 0)]) m):
  execF cxIm (uIm (ImS A) (ImT A) (ImR A)) Tryz.f20 64 [ag4 a0 a1 a2 a3,ag4 m0 m1 m2 m3] (memL []) K:=by
 rw[vc_im]
 have vm:=hm.val
 have wm:=hm.wd
 intro s0 ks0 s1 ks1 s2 ks2 s3 ks3 s4 ks4 s5 ks5 s6 ks6 s7 ks7 s8 ks8 s9 ks9 s10 ks10 s11 ks11;subst s0 s1 s2 s3 s4 s5 s6 s7 s8 s9 s10 s11
 refine ⟨fun h=>h0 ?_ _,fun h=> ?_⟩
 ·have:=(list_lit ha 0 (by decide) (by decide)).1 (of_decide_eq_true h)
  omega
 have hA0:A≠0:=by
  intro e
  exact of_decide_eq_false h ((list_lit ha 0 (by decide) (by decide)).2 (by omega))
 clear h h0
 have hK:=hK hA0
 refine ⟨⟨⟨a0,a1,a2,a3,m0,m1,m2,m3,1,0,0,0,0,0,0,0⟩,⟨A,qN,1,0,⟨ha,hm,⟨rfl,rfl,rfl,rfl,by decide⟩,⟨rfl,rfl,rfl,rfl,by decide⟩⟩,ImP.first (by omega) hA⟩,⟨rfl,rfl,rfl,rfl⟩,⟨rfl,rfl,rfl,rfl⟩,⟨rfl,rfl,rfl,rfl⟩,⟨rfl,rfl,rfl,rfl⟩,⟨rfl,rfl,rfl,rfl⟩,rfl,rfl,rfl,rfl⟩,?_⟩
 rintro ⟨u0,u1,u2,u3,v0,v1,v2,v3,x0,x1,x2,x3,y0,y1,y2,y3⟩ ⟨U,V,X,Y,⟨hu,hv,hx,hy⟩,P⟩
 dsimp only at hu hv hx hy ⊢
 have vu:=hu.val
 have vv:=hv.val
 have fin:∀m,(U=1→K (ag4 x0 x1 x2 x3) m)∧(V=1→K (ag4 y0 y1 y2 y3) m):=by
  refine fun m=>⟨fun e=>hK _ _ _ _ ?_ _,fun e=>hK _ _ _ _ ?_ _⟩
  ·rw[←inv0_unique P.x (by rw[P.ex,e];decide)];exact hx
  ·rw[←inv0_unique P.y (by rw[P.ey,e];decide)];exact hy
 intro s0 ks0 s1 ks1 s2 ks2 s3 ks3;subst s0 s1 s2 s3
 refine ⟨fun hU=> ?_,fun hU=> ?_⟩
 rotate_left
 ·have hU1:U=1:=by
   have:=(list_lit hu 1 (by decide) (by decide)).1 (of_decide_eq_true (by simpa using hU))
   omega
  intro s0 ks0 s1 ks1 s2 ks2 s3 ks3;subst s0 s1 s2 s3
  refine ⟨fun h1=> ?_,fun h1=> ?_⟩
  ·intro s0 ks0 s1 ks1 s2 ks2 s3 ks3;subst s0 s1 s2 s3
   exact (fin _).1 hU1
  ·exact absurd ((list_lit hu 1 (by decide) (by decide)).2 (by omega)) (of_decide_eq_false h1)
 have hU:U≠1:=by
  intro e
  have:=(list_lit hu 1 (by decide) (by decide)).2 (by omega)
  rw[this]at hU
  exact absurd hU (by decide)
 intro s0 ks0 s1 ks1 s2 ks2 s3 ks3;subst s0 s1 s2 s3
 refine ⟨fun hV=> ?_,fun hV=> ?_⟩
 rotate_left
 ·have hV1:V=1:=by
   have:=(list_lit hv 1 (by decide) (by decide)).1 (of_decide_eq_true (by simpa using hV))
   omega
  intro s0 ks0 s1 ks1 s2 ks2 s3 ks3;subst s0 s1 s2 s3
  refine ⟨fun h1=> ?_,fun h1=> ?_⟩
  ·have:=(list_lit hu 1 (by decide) (by decide)).1 (of_decide_eq_true h1)
   omega
  ·intro s0 ks0 s1 ks1 s2 ks2 s3 ks3;subst s0 s1 s2 s3
   exact (fin _).2 hV1
 have hV:V≠1:=by
  intro e
  have:=(list_lit hv 1 (by decide) (by decide)).2 (by omega)
  rw[this]at hV
  exact absurd hV (by decide)
 clear fin
 rw[vu,vv]
 refine ⟨⟨⟨u0,u1,u2,u3,x0,x1,x2,x3⟩,⟨U,X,hu,hx,by rw[Int.toNat_natCast,Int.toNat_natCast];exact P.in1 hU⟩,⟨rfl,rfl,rfl,rfl⟩,⟨rfl,rfl,rfl,rfl⟩,⟨rfl,rfl,rfl,rfl⟩,⟨rfl,rfl,rfl,rfl⟩,⟨rfl,rfl,rfl,rfl⟩,rfl,rfl,rfl,rfl⟩,?_⟩
 rintro ⟨u0,u1,u2,u3,x0,x1,x2,x3⟩ ⟨U1,X1,hu1,hx1,P1⟩
 rw[Int.toNat_natCast,Int.toNat_natCast]at P1
 dsimp only at hu1 hx1 ⊢
 have vu1:=hu1.val
 rw[par hu1]
 intro p hp
 refine ⟨fun he=> ?_,fun he=> ?_⟩
 ·have he:U1%2=0:=by
   have:p=0:=by simpa using he
   omega
  intro s0 ks0 s1 ks1 s2 ks2 s3 ks3;subst s0 s1 s2 s3
  refine ⟨hu1.wd,?_⟩
  rw[vu1,Int.toNat_natCast]
  intro s0 ks0 s1 ks1 s2 ks2 s3 ks3 s4 ks4 s5 ks5 s6 ks6 s7 ks7 s8 ks8 s9 ks9 s10 ks10 s11 ks11;subst s0 s1 s2 s3 s4 s5 s6 s7 s8 s9 s10 s11
  refine ⟨⟨hx1.wd,wm⟩,?_⟩
  rw[hx1.val,vm,Int.toNat_natCast,Int.toNat_natCast]
  intro s0 ks0 s1 ks1 s2 ks2 s3 ks3;subst s0 s1 s2 s3
  have P2:=P1.step he
  have hd:=ws_dec hu1
  refine ⟨⟨lm (U1 / 2) 0,lm (U1 / 2) 1,lm (U1 / 2) 2,lm (U1 / 2) 3,lm (hvm X1 qN) 0,lm (hvm X1 qN) 1,lm (hvm X1 qN) 2,lm (hvm X1 qN) 3⟩,⟨U1 / 2,hvm X1 qN,hd,ws_q P2.x,by rw[Int.toNat_natCast,Int.toNat_natCast];exact P2⟩,⟨⟨rfl,rfl,rfl,rfl⟩,⟨rfl,rfl,rfl,rfl⟩,⟨rfl,rfl,rfl,rfl⟩,⟨rfl,rfl,rfl,rfl⟩,⟨rfl,rfl,rfl,rfl⟩,rfl,rfl,rfl,rfl⟩,?_⟩
  dsimp only
  rw[hd.val]
  have:=P2.u
  omega
 have ho:U1%2=1:=by
  have:¬p=0:=by simpa using he
  omega
 rw[vu1]
 refine ⟨⟨⟨v0,v1,v2,v3,y0,y1,y2,y3⟩,⟨V,Y,hv,hy,by rw[Int.toNat_natCast,Int.toNat_natCast];exact P.in2 P1 hV⟩,⟨rfl,rfl,rfl,rfl⟩,⟨rfl,rfl,rfl,rfl⟩,⟨rfl,rfl,rfl,rfl⟩,⟨rfl,rfl,rfl,rfl⟩,⟨rfl,rfl,rfl,rfl⟩,rfl,rfl,rfl,rfl⟩,?_⟩
 rintro ⟨v0,v1,v2,v3,y0,y1,y2,y3⟩ ⟨V1,Y1,hv1,hy1,Q1⟩
 rw[Int.toNat_natCast,Int.toNat_natCast]at Q1
 dsimp only at hv1 hy1 ⊢
 have vv1:=hv1.val
 rw[par hv1]
 clear hp he p
 intro p hp
 refine ⟨fun he=> ?_,fun he=> ?_⟩
 ·have he:V1%2=0:=by
   have:p=0:=by simpa using he
   omega
  intro s0 ks0 s1 ks1 s2 ks2 s3 ks3;subst s0 s1 s2 s3
  refine ⟨hv1.wd,?_⟩
  rw[vv1,Int.toNat_natCast]
  intro s0 ks0 s1 ks1 s2 ks2 s3 ks3 s4 ks4 s5 ks5 s6 ks6 s7 ks7 s8 ks8 s9 ks9 s10 ks10 s11 ks11;subst s0 s1 s2 s3 s4 s5 s6 s7 s8 s9 s10 s11
  refine ⟨⟨hy1.wd,wm⟩,?_⟩
  rw[hy1.val,vm,Int.toNat_natCast,Int.toNat_natCast]
  intro s0 ks0 s1 ks1 s2 ks2 s3 ks3;subst s0 s1 s2 s3
  have Q2:=Q1.step he
  have hd:=ws_dec hv1
  refine ⟨⟨lm (V1 / 2) 0,lm (V1 / 2) 1,lm (V1 / 2) 2,lm (V1 / 2) 3,lm (hvm Y1 qN) 0,lm (hvm Y1 qN) 1,lm (hvm Y1 qN) 2,lm (hvm Y1 qN) 3⟩,⟨V1 / 2,hvm Y1 qN,hd,ws_q Q2.y,by rw[Int.toNat_natCast,Int.toNat_natCast];exact Q2⟩,⟨⟨rfl,rfl,rfl,rfl⟩,⟨rfl,rfl,rfl,rfl⟩,⟨rfl,rfl,rfl,rfl⟩,⟨rfl,rfl,rfl,rfl⟩,⟨rfl,rfl,rfl,rfl⟩,rfl,rfl,rfl,rfl⟩,?_⟩
  dsimp only
  rw[hd.val]
  have:=Q2.v
  omega
 have he:V1%2=1:=by
  have:¬p=0:=by simpa using he
  omega
 have hne:=out_ne P1 Q1 he
 have lu:=P1.l
 have lv:=Q1.l
 have pu:=P1.u
 have pv:=Q1.v
 intro s0 ks0 s1 ks1 s2 ks2 s3 ks3 s4 ks4 s5 ks5 s6 ks6 s7 ks7;subst s0 s1 s2 s3 s4 s5 s6 s7
 refine ⟨⟨hu1.wd,hv1.wd⟩,?_⟩
 rw[vu1,vv1]
 refine ⟨fun hl=> ?_,fun hl=> ?_⟩
 ·have hl:U1<V1:=by
   have:=of_decide_eq_true hl
   omega
  intro s0 ks0 s1 ks1 s2 ks2 s3 ks3 s4 ks4 s5 ks5 s6 ks6 s7 ks7;subst s0 s1 s2 s3 s4 s5 s6 s7
  refine ⟨⟨hv1.wd,hu1.wd⟩,?_⟩
  rw[vu1,vv1,w256_sub (Nat.le_of_lt hl) hv1.lt]
  intro s0 ks0 s1 ks1 s2 ks2 s3 ks3 s4 ks4 s5 ks5 s6 ks6 s7 ks7 s8 ks8 s9 ks9 s10 ks10 s11 ks11 s12 ks12 s13 ks13 s14 ks14 s15 ks15;subst s0 s1 s2 s3 s4 s5 s6 s7 s8 s9 s10 s11 s12 s13 s14 s15
  have bx:=P1.x
  have b_y:=Q1.y
  rw[hx1.val,hy1.val,vm]
  refine ⟨⟨⟨hy1.wd,hx1.wd,wm⟩,by omega,by omega⟩,?_⟩
  intro s0 ks0 s1 ks1 s2 ks2 s3 ks3;subst s0 s1 s2 s3
  have P2:=out_lt P1 Q1 hl
  have hd:=ws_lm (x:=V1-U1) (by have:=hv1.lt;omega)
  refine ⟨⟨u0,u1,u2,u3,lm (V1-U1) 0,lm (V1-U1) 1,lm (V1-U1) 2,lm (V1-U1) 3,x0,x1,x2,x3,lm ((((Y1:Int)-(X1:Int))%(qN:Int)).toNat) 0,lm ((((Y1:Int)-(X1:Int))%(qN:Int)).toNat) 1,lm ((((Y1:Int)-(X1:Int))%(qN:Int)).toNat) 2,lm ((((Y1:Int)-(X1:Int))%(qN:Int)).toNat) 3⟩,⟨_,_,_,_,⟨hu1,hd,hx1,ws_q P2.y⟩,P2⟩,⟨⟨rfl,rfl,rfl,rfl⟩,⟨rfl,rfl,rfl,rfl⟩,⟨rfl,rfl,rfl,rfl⟩,⟨rfl,rfl,rfl,rfl⟩,⟨rfl,rfl,rfl,rfl⟩,rfl,rfl,rfl,rfl⟩,?_⟩
  dsimp only
  rw[hd.val,vu1]
  omega
 ·have hl:V1<U1:=by
   have:=of_decide_eq_false hl
   omega
  intro s0 ks0 s1 ks1 s2 ks2 s3 ks3 s4 ks4 s5 ks5 s6 ks6 s7 ks7;subst s0 s1 s2 s3 s4 s5 s6 s7
  refine ⟨⟨hu1.wd,hv1.wd⟩,?_⟩
  rw[vu1,vv1,w256_sub (Nat.le_of_lt hl) hu1.lt]
  intro s0 ks0 s1 ks1 s2 ks2 s3 ks3 s4 ks4 s5 ks5 s6 ks6 s7 ks7 s8 ks8 s9 ks9 s10 ks10 s11 ks11 s12 ks12 s13 ks13 s14 ks14 s15 ks15;subst s0 s1 s2 s3 s4 s5 s6 s7 s8 s9 s10 s11 s12 s13 s14 s15
  have bx:=P1.x
  have b_y:=Q1.y
  rw[hx1.val,hy1.val,vm]
  refine ⟨⟨⟨hx1.wd,hy1.wd,wm⟩,by omega,by omega⟩,?_⟩
  intro s0 ks0 s1 ks1 s2 ks2 s3 ks3;subst s0 s1 s2 s3
  have P2:=out_gt P1 Q1 hl
  have hd:=ws_lm (x:=U1-V1) (by have:=hu1.lt;omega)
  refine ⟨⟨lm (U1-V1) 0,lm (U1-V1) 1,lm (U1-V1) 2,lm (U1-V1) 3,v0,v1,v2,v3,lm ((((X1:Int)-(Y1:Int))%(qN:Int)).toNat) 0,lm ((((X1:Int)-(Y1:Int))%(qN:Int)).toNat) 1,lm ((((X1:Int)-(Y1:Int))%(qN:Int)).toNat) 2,lm ((((X1:Int)-(Y1:Int))%(qN:Int)).toNat) 3,y0,y1,y2,y3⟩,⟨_,_,_,_,⟨hd,hv1,ws_q P2.x,hy1⟩,P2⟩,⟨⟨rfl,rfl,rfl,rfl⟩,⟨rfl,rfl,rfl,rfl⟩,⟨rfl,rfl,rfl,rfl⟩,⟨rfl,rfl,rfl,rfl⟩,⟨rfl,rfl,rfl,rfl⟩,rfl,rfl,rfl,rfl⟩,?_⟩
  dsimp only
  rw[hd.val,vv1]
  omega
def rIm:R0:=fun args l=>
 match args,l with
 | [.agg [.int .u64 (.sym a0),.int .u64 (.sym a1),.int .u64 (.sym a2),.int .u64 (.sym a3)],.agg [.int .u64 (.sym m0),.int .u64 (.sym m1),.int .u64 (.sym m2),.int .u64 (.sym m3)]],[]=>some (some (((Wd a0∧Wd a1∧Wd a2∧Wd a3)∧(Wd m0∧Wd m1∧Wd m2∧Wd m3))∧V4 a0 a1 a2 a3<qN∧V4 m0 m1 m2 m3=qN),ag4 (lm (inv0 (V4 a0 a1 a2 a3).toNat) 0) (lm (inv0 (V4 a0 a1 a2 a3).toNat) 1) (lm (inv0 (V4 a0 a1 a2 a3).toNat) 2) (lm (inv0 (V4 a0 a1 a2 a3).toNat) 3))
 | _,_=>none
theorem im_ok (args:List SV) (l:List (Nat×Reg)) (p:Ob) (v:SV) (h:rIm args l=some (p,v)) (hp:p.ok):∃U,execF cxIm U Tryz.f20 64 args (memL l) fun v' _=>∀β u,Den β v' u→Den β v u:=by
 unfold rIm at h
 split at h
 ·rename_i a0 a1 a2 a3 m0 m1 m2 m3
  simp only[Option.some.injEq,Prod.mk.injEq]at h
  obtain ⟨rfl,rfl⟩:=h
  obtain ⟨⟨wa,wm⟩,la,em⟩:=(show ((Wd a0∧Wd a1∧Wd a2∧Wd a3)∧(Wd m0∧Wd m1∧Wd m2∧Wd m3))∧V4 a0 a1 a2 a3<qN∧V4 m0 m1 m2 m3=qN from hp)
  have Ha:=ws_of wa.1 wa.2.1 wa.2.2.1 wa.2.2.2
  have Hm:=ws_of wm.1 wm.2.1 wm.2.2.1 wm.2.2.2
  rw[em,Int.toNat_natCast]at Hm
  have ea:=Ws.val Ha
  generalize (V4 a0 a1 a2 a3).toNat=A at *
  refine ⟨_,im_walk Ha Hm (by omega) (fun _ x0 x1 x2 x3 hx m β u hu=> ?_) (fun e m β u hu=> ?_)⟩
  ·obtain ⟨rfl,rfl,rfl,rfl,_⟩:=hx
   exact hu
  ·rw[e,inv0_zero]
   exact hu
 ·cases h
def cIm:Rd Tryz.prog:=mkQ mixed 20 Tryz.func20 (by decide) (by kernel_rfl) [] [.num,.num] rIm im_ok
def cxRt:Cx Tryz.prog:= { rds:= [cPP,cWs,cHv,cPw,cMl],efs:= [],eqs:= [eq23] }
theorem vc_rt (a0 a1 a2 a3:Int) (K:SV→Mem→Prop):(execF cxRt u9 Tryz.f62 64 [ag4 a0 a1 a2 a3] (memL []) K)=(((Wd (4332616871279656263:Int)∧Wd (10917124144477883021:Int)∧Wd (13281191951274694749:Int)∧Wd
 (3486998266802970665:Int))∧Wd (1:Int)∧Wd (0:Int)∧Wd (0:Int)∧Wd (0:Int))∧∀a,a=a0→∀b,b=a1→∀c,c=a2→∀d,d=a3→∀e:Int,e=4332616871279656264→∀f:Int,f=10917124144477883021→∀g:Int,g=
 13281191951274694749→∀h:Int,h=3486998266802970665→((Wd e∧Wd f∧Wd g∧Wd h)∧∀i,i=lm (Int.toNat (V4 e f g h) / 2) 0→∀j,j=lm (Int.toNat (V4 e f g h) / 2) 1→∀k,k=lm (Int.toNat (V4 e f g h) / 2) 2→∀l,l=lm
 (Int.toNat (V4 e f g h) / 2) 3→((Wd i∧Wd j∧Wd k∧Wd l)∧∀m,m=lm (Int.toNat (V4 i j k l) / 2) 0→∀n,n=lm (Int.toNat (V4 i j k l) / 2) 1→∀o,o=lm (Int.toNat (V4 i j k l) / 2) 2→∀p,p=lm (Int.toNat (V4 i j k l) / 2)
 3→(((Wd a∧Wd b∧Wd c∧Wd d)∧Wd m∧Wd n∧Wd o∧Wd p)∧∀y,y=lm (pw (21888242871839275222246405745257275088696311157297823662689037894645226208583:Nat) (256:Nat) (Int.toNat (V4 a b c d)) (Int.toNat (V4 m n o p))) 0→∀z,
 z=lm (pw (21888242871839275222246405745257275088696311157297823662689037894645226208583:Nat) (256:Nat) (Int.toNat (V4 a b c d)) (Int.toNat (V4 m n o p))) 1→∀A,A=lm (pw
 (21888242871839275222246405745257275088696311157297823662689037894645226208583:Nat) (256:Nat) (Int.toNat (V4 a b c d)) (Int.toNat (V4 m n o p))) 2→∀B,B=lm (pw
 (21888242871839275222246405745257275088696311157297823662689037894645226208583:Nat) (256:Nat) (Int.toNat (V4 a b c d)) (Int.toNat (V4 m n o p))) 3→∀C,C=y→∀D,D=z→∀E,E=A→∀F,F=B→∀q,q=y→∀r,r=z→∀s,s=
 A→∀t,t=B→∀u,u=y→∀v,v=z→∀w,w=A→∀x,x=B→(((Wd q∧Wd r∧Wd s∧Wd t)∧Wd u∧Wd v∧Wd w∧Wd x)∧∀G,G=lm (Int.toNat (V4 q r s t)*Int.toNat (V4 u v w x) %
 21888242871839275222246405745257275088696311157297823662689037894645226208583) 0→∀H,H=lm (Int.toNat (V4 q r s t)*Int.toNat (V4 u v w x)%21888242871839275222246405745257275088696311157297823662689037894645226208583) 1→∀I,I=
 lm (Int.toNat (V4 q r s t)*Int.toNat (V4 u v w x)%21888242871839275222246405745257275088696311157297823662689037894645226208583) 2→∀J,J=lm (Int.toNat (V4 q r s t)*Int.toNat (V4 u v w x) %
 21888242871839275222246405745257275088696311157297823662689037894645226208583) 3→∀L,L=a0→∀M,M=a1→∀N,N=a2→∀O,O=a3→K (.tup [.agg [.int .u64 (.sym C),.int .u64 (.sym D),.int .u64 (.sym E),.int .u64 (.sym F)],
 .bool (.sym (decide ([G,H,I,J]= [L,M,N,O])))]) (memL [(513,⟨false,.cells [.int .u64 (.sym a0),.int .u64 (.sym a1),.int .u64 (.sym a2),.int .u64 (.sym a3)]⟩),(521,⟨false,.cells [.int .u64 (.sym C),.int .u64 (.sym D),.int
 .u64 (.sym E),.int .u64 (.sym F)]⟩),(585,⟨false,.cells [.int .u64 (.sym 4332616871279656264),.int .u64 (.sym 10917124144477883021),.int .u64 (.sym 13281191951274694749),.int .u64 (.sym 3486998266802970665)]⟩),(649,⟨false,.cells
 [.int .u64 (.sym y),.int .u64 (.sym z),.int .u64 (.sym A),.int .u64 (.sym B)]⟩)])))))):=by kernel_rfl
theorem w_iff {a b c d e f g h:Int} {A B:Nat} (ha:Ws a b c d A) (hb:Ws e f g h B): [a,b,c,d]= [e,f,g,h]↔A=B:=by
 constructor
 ·intro l
  simp only[List.cons.injEq,and_true]at l
  obtain ⟨rfl,rfl,rfl,rfl⟩:=l
  have:=ha.val
  rw[hb.val]at this
  omega
 ·intro e
  subst e
  obtain ⟨rfl,rfl,rfl,rfl,_⟩:=ha
  obtain ⟨rfl,rfl,rfl,rfl,_⟩:=hb
  rfl
theorem one_ws:Ws 1 0 0 0 1:=⟨rfl,rfl,rfl,rfl,by decide⟩
theorem zero_ws:Ws 0 0 0 0 0:=⟨rfl,rfl,rfl,rfl,by decide⟩
theorem Vx {a b c d:Int} {A:Nat} (h:Ws a b c d A):(V4 a b c d).toNat=A:=by rw[h.val,Int.toNat_natCast]
theorem lm4_wd (x:Nat):Wd (lm x 0)∧Wd (lm x 1)∧Wd (lm x 2)∧Wd (lm x 3):=⟨lm_wd _ _,lm_wd _ _,lm_wd _ _,lm_wd _ _⟩
theorem rt_walk {A:Nat} {a0 a1 a2 a3:Int} {K:SV→Mem→Prop} (ha:Ws a0 a1 a2 a3 A) (hK:∀m,K (.tup [ag4 (lm (rtN A) 0) (lm (rtN A) 1) (lm (rtN A) 2) (lm (rtN A) 3),.bool (.sym (sqN A))]) m):
  execF cxRt u9 Tryz.f62 64 [ag4 a0 a1 a2 a3] (memL []) K:=by
 rw[vc_rt,←qN_eq]
 refine ⟨⟨q_ws.wd,one_ws.wd⟩,?_⟩
 intro s0 ks0 s1 ks1 s2 ks2 s3 ks3 s4 ks4 s5 ks5 s6 ks6 s7 ks7;subst s0 s1 s2 s3 s4 s5 s6 s7
 have h1:Ws 4332616871279656264 10917124144477883021 13281191951274694749 3486998266802970665 (qN+1):=⟨by decide,by decide,by decide,by decide,by decide⟩
 refine ⟨h1.wd,?_⟩
 rw[Vx h1]
 have h2:Ws (lm ((qN+1) / 2) 0) (lm ((qN+1) / 2) 1) (lm ((qN+1) / 2) 2) (lm ((qN+1) / 2) 3) ((qN+1) / 2):=ws_lm (by decide)
 intro s0 ks0 s1 ks1 s2 ks2 s3 ks3;subst s0 s1 s2 s3
 refine ⟨h2.wd,?_⟩
 rw[Vx h2]
 have h3:Ws (lm ((qN+1) / 2 / 2) 0) (lm ((qN+1) / 2 / 2) 1) (lm ((qN+1) / 2 / 2) 2) (lm ((qN+1) / 2 / 2) 3) ((qN+1) / 2 / 2):=ws_lm (by decide)
 intro s0 ks0 s1 ks1 s2 ks2 s3 ks3;subst s0 s1 s2 s3
 refine ⟨⟨ha.wd,h3.wd⟩,?_⟩
 rw[Vx h3,Vx ha,show (qN+1) / 2 / 2=e4N by decide,show pw qN 256 A e4N=rtN A from rfl]
 intro s0 ks0 s1 ks1 s2 ks2 s3 ks3 s4 ks4 s5 ks5 s6 ks6 s7 ks7 s8 ks8 s9 ks9 s10 ks10 s11 ks11 s12 ks12 s13 ks13 s14 ks14 s15 ks15;subst s0 s1 s2 s3 s4 s5 s6 s7 s8 s9 s10 s11 s12 s13 s14 s15
 have h4:Ws (lm (rtN A) 0) (lm (rtN A) 1) (lm (rtN A) 2) (lm (rtN A) 3) (rtN A):=ws_q (rtN_lt A)
 refine ⟨⟨h4.wd,h4.wd⟩,?_⟩
 rw[Vx h4]
 intro s0 ks0 s1 ks1 s2 ks2 s3 ks3 s4 ks4 s5 ks5 s6 ks6 s7 ks7;subst s0 s1 s2 s3 s4 s5 s6 s7
 have h5:=w_iff (ws_q (Nat.mod_lt (rtN A*rtN A) (show 0<qN by decide))) ha
 rw[decide_eq_decide.2 h5]
 exact hK _
def rRt:R0:=fun args l=>
 match args,l with
 | [.agg [.int .u64 (.sym a0),.int .u64 (.sym a1),.int .u64 (.sym a2),.int .u64 (.sym a3)]],[]=>some (some ((Wd a0∧Wd a1∧Wd a2∧Wd a3)),.tup [ag4 (lm (rtN (V4 a0 a1 a2 a3).toNat) 0) (lm (rtN (V4 a0 a1 a2 a3).toNat) 1) (lm (rtN (V4 a0 a1 a2 a3).toNat) 2) (lm (rtN (V4 a0 a1 a2 a3).toNat) 3),.bool (.sym (sqN (V4 a0 a1 a2 a3).toNat))])
 | _,_=>none
theorem Rt_ok (args:List SV) (l:List (Nat×Reg)) (p:Ob) (v:SV) (h:rRt args l=some (p,v)) (hp:p.ok):∃U,execF cxRt U Tryz.f62 64 args (memL l) fun v' _=>v'=v:=by
 unfold rRt at h
 split at h
 ·rename_i a0 a1 a2 a3
  simp only[Option.some.injEq,Prod.mk.injEq]at h
  obtain ⟨rfl,rfl⟩:=h
  have hp:(Wd a0∧Wd a1∧Wd a2∧Wd a3):=hp
  have A:=ws_of hp.1 hp.2.1 hp.2.2.1 hp.2.2.2
  exact ⟨_,rt_walk A fun _=>rfl⟩
 ·cases h
def cRt:Rd Tryz.prog:=mkR mixed 62 Tryz.func62 (by decide) (by kernel_rfl) [] [.num] rRt Rt_ok
instance (x:Int):Decidable (Wd x):=by unfold Wd;infer_instance
theorem A4_eq {a b c d e f g h:Int} (k:W4 a b c d) (l:W4 e f g h):A4 a b c d e f g h=(N4 a b c d+N4 e f g h)%qN:=by
 unfold A4 N4
 rw[(ws_of k.1 k.2.1 k.2.2.1 k.2.2.2).val,(ws_of l.1 l.2.1 l.2.2.1 l.2.2.2).val,Int.toNat_natCast,Int.toNat_natCast]
 unfold qN
 omega
theorem Z4_0:Z4 0 0 0 0=True:=by simp[Z4]
theorem qI_eq:qI=(qN:Int):=rfl
theorem N4l {v:Nat} (h:v<qN):N4 (lm v 0) (lm v 1) (lm v 2) (lm v 3)=v:=Vx (ws_q h)
theorem N4q (a:Nat):N4 (lm (a%qN) 0) (lm (a%qN) 1) (lm (a%qN) 2) (lm (a%qN) 3)=a%qN:=N4l (Nat.mod_lt _ (by decide))
theorem N4i (a:Nat):N4 (lm (inv0 a) 0) (lm (inv0 a) 1) (lm (inv0 a) 2) (lm (inv0 a) 3)=inv0 a:=N4l (inv0_lt a)
theorem N4r (a:Nat):N4 (lm (rtN a) 0) (lm (rtN a) 1) (lm (rtN a) 2) (lm (rtN a) 3)=rtN a:=N4l (rtN_lt a)
theorem N4n (n:Nat):N4 n 0 0 0=n:=by unfold N4 V4;omega
theorem N4_0:N4 0 0 0 0=0:=N4n 0
theorem N4_1:N4 1 0 0 0=1:=N4n 1
theorem N4_2:N4 2 0 0 0=2:=N4n 2
theorem N4_3:N4 3 0 0 0=3:=N4n 3
theorem N4_4:N4 4 0 0 0=4:=N4n 4
theorem W4l (v:Nat):W4 (lm v 0) (lm v 1) (lm v 2) (lm v 3)=True:=eq_true (lm4_wd v)
theorem W4n {n:Int} (h:Wd n):W4 n 0 0 0=True:=eq_true ⟨h,wd0,wd0,wd0⟩
theorem W4_0:W4 0 0 0 0=True:=W4n (by decide)
theorem W4_1:W4 1 0 0 0=True:=W4n (by decide)
theorem W4_2:W4 2 0 0 0=True:=W4n (by decide)
theorem W4_3:W4 3 0 0 0=True:=W4n (by decide)
theorem W4_4:W4 4 0 0 0=True:=W4n (by decide)
theorem Vlt {v:Nat} (h:v<qN):(V4 (lm v 0) (lm v 1) (lm v 2) (lm v 3)<qI)=True:=eq_true (by rw[(ws_q h).val,qI_eq];omega)
theorem Vq_lt (a:Nat):(V4 (lm (a%qN) 0) (lm (a%qN) 1) (lm (a%qN) 2) (lm (a%qN) 3)<qI)=True:=Vlt (Nat.mod_lt _ (by decide))
theorem Vi_lt (a:Nat):(V4 (lm (inv0 a) 0) (lm (inv0 a) 1) (lm (inv0 a) 2) (lm (inv0 a) 3)<qI)=True:=Vlt (inv0_lt a)
theorem Vr_lt (a:Nat):(V4 (lm (rtN a) 0) (lm (rtN a) 1) (lm (rtN a) 2) (lm (rtN a) 3)<qI)=True:=Vlt (rtN_lt a)
theorem V0_lt:(V4 0 0 0 0<qI)=True:=by decide
theorem V1_lt:(V4 1 0 0 0<qI)=True:=by decide
theorem V2_lt:(V4 2 0 0 0<qI)=True:=by decide
theorem V3_lt:(V4 3 0 0 0<qI)=True:=by decide
theorem V4_lt':(V4 4 0 0 0<qI)=True:=by decide
theorem z_lt:((0:Int)<qI)=True:=by decide
def agF (a b c d:Int):SV:= .agg [.int .u64 (.sym a),.int .u64 (.sym b),.int .u64 (.sym c),.int .u64 (.sym d),.int .u64 (.sym 0),.int .u64 (.sym 0),.int .u64 (.sym 0),.int .u64 (.sym 0)]
theorem lq {x:Nat} (h:x<qN):(x:Int)<21888242871839275222246405745257275088696311157297823662689037894645226208583:=by
 unfold qN at h
 omega
theorem lm0 (i:Nat):lm 0 i=0:=by unfold lm;simp
theorem mul_z (x:Nat):(x*0)%qN=0:=by rw[Nat.mul_zero,Nat.zero_mod]
theorem z_mul (x:Nat):(0*x)%qN=0:=by rw[Nat.zero_mul,Nat.zero_mod]
theorem sub_z (x:Nat):(x+(qN-0))%qN=x%qN:=by rw[Nat.sub_zero,Nat.add_mod_right]
theorem z_sub:(0+(qN-0))%qN=0:=by decide
theorem z_add:(0+0)%qN=0:=rfl
theorem inv_e {a:Nat} (h:a<qN):a*inv0 (a*a%qN)%qN=inv0 a:=by
 by_cases h0:a=0
 ·rw[h0,z_mul,inv0_zero]
 ·have hm:a%qN≠0:=by rw[Nat.mod_eq_of_lt h];exact h0
  refine inv0_unique (Nat.mod_lt _ (by decide)) ?_
  rw[Nat.mod_mul_mod,show a*inv0 (a*a%qN)*a=inv0 (a*a%qN)*(a*a) by rw[Nat.mul_comm a,Nat.mul_assoc],Nat.mul_mod,←Nat.mod_mod (a*a),←Nat.mul_mod,Nat.mod_mod,
   inv0_mul (by rw[Nat.mod_mod];exact mul_ne hm hm)]
def cxE:Cx Tryz.prog:= { rds:= [cPP,cMl,cSb,cAd,cIm],efs:= [],eqs:= [] }
theorem vc_mule (a0 a1 a2 a3 b0 b1 b2 b3:Int) (P:SV→Prop):(execF cxE u9 Tryz.f27 64 [agF a0 a1 a2 a3,agF b0 b1 b2 b3] (memL []) fun v _=>P v)=(B4 a0 a1 a2 a3 fun q r s t=>B4 b0 b1 b2 b3 fun u w x y=>(W4 q r s t∧W4 u w x
 y)∧L4 (N4 q r s t*N4 u w x y%qN) fun a b c d=>B4 0 0 0 0 fun z A B C=>B4 0 0 0 0 fun D E F G=>(W4 z A B C∧W4 D E F G)∧L4 (N4 z A B C*N4 D E F G%qN) fun e f g h=>((W4 a b c d∧W4 e f g h)∧V4 a b c d<qI∧V4 e f g
 h<qI)∧L4 ((N4 a b c d+(qN-N4 e f g h))%qN) fun aa ab ac ad=>B4 a0 a1 a2 a3 fun H I J K=>B4 0 0 0 0 fun L M N O=>(W4 H I J K∧W4 L M N O)∧L4 (N4 H I J K*N4 L M N O%qN) fun i j k l=>B4 0 0 0 0 fun Q R S T=>B4 b0 b1
 b2 b3 fun V X Y Z=>(W4 Q R S T∧W4 V X Y Z)∧L4 (N4 Q R S T*N4 V X Y Z%qN) fun m n o p=>((W4 i j k l∧W4 m n o p)∧V4 i j k l<qI∧V4 m n o p<qI)∧L4 (A4 i j k l m n o p) fun ae af ag ah=>P (.agg [U aa,U ab,U ac,U ad,
 U ae,U af,U ag,U ah])):=by kernel_rfl
theorem vc_adde (a0 a1 a2 a3 b0 b1 b2 b3:Int) (P:SV→Prop):(execF cxE u9 Tryz.f32 64 [agF a0 a1 a2 a3,agF b0 b1 b2 b3] (memL []) fun v _=>P v)=(B4 a0 a1 a2 a3 fun a b c d=>B4 b0 b1 b2 b3 fun e f g h=>((W4 a b c d∧W4 e f g
 h)∧V4 a b c d<qI∧V4 e f g h<qI)∧L4 (A4 a b c d e f g h) fun q r s t=>B4 0 0 0 0 fun i j k l=>B4 0 0 0 0 fun m n o p=>((W4 i j k l∧W4 m n o p)∧V4 i j k l<qI∧V4 m n o p<qI)∧L4 (A4 i j k l m n o p) fun u w x y=>P
 (.agg [U q,U r,U s,U t,U u,U w,U x,U y])):=by kernel_rfl
theorem vc_sube (a0 a1 a2 a3 b0 b1 b2 b3:Int) (P:SV→Prop):(execF cxE u9 Tryz.f29 64 [agF a0 a1 a2 a3,agF b0 b1 b2 b3] (memL []) fun v _=>P v)=(B4 a0 a1 a2 a3 fun a b c d=>B4 b0 b1 b2 b3 fun e f g h=>((W4 a b c d∧W4 e f g
 h)∧V4 a b c d<qI∧V4 e f g h<qI)∧L4 ((N4 a b c d+(qN-N4 e f g h))%qN) fun q r s t=>B4 0 0 0 0 fun i j k l=>B4 0 0 0 0 fun m n o p=>((W4 i j k l∧W4 m n o p)∧V4 i j k l<qI∧V4 m n o p<qI)∧L4 ((N4 i j k l+(qN
 - N4 m n o p))%qN) fun u w x y=>P (.agg [U q,U r,U s,U t,U u,U w,U x,U y])):=by kernel_rfl
theorem vc_inve (a0 a1 a2 a3:Int) (P:SV→Prop):(execF cxE u9 Tryz.f31 64 [agF a0 a1 a2 a3] (memL []) fun v _=>P v)=(B4 a0 a1 a2 a3 fun q r s t=>B4 a0 a1 a2 a3 fun u w x y=>(W4 q r s t∧W4 u w x y)∧L4 (N4 q r s t*N4 u w x
 y%qN) fun a b c d=>B4 0 0 0 0 fun z A B C=>B4 0 0 0 0 fun D E F G=>(W4 z A B C∧W4 D E F G)∧L4 (N4 z A B C*N4 D E F G%qN) fun e f g h=>((W4 a b c d∧W4 e f g h)∧V4 a b c d<qI∧V4 e f g h<qI)∧L4 (A4 a b c d e f g
 h) fun i j k l=>((W4 i j k l∧W4 4332616871279656263 10917124144477883021 13281191951274694749 3486998266802970665)∧V4 i j k l<qI∧qI=qI)∧L4 (inv0 (N4 i j k l)) fun H I J K=>B4 a0 a1 a2 a3 fun L M N O=>B4 H I J K fun Q R S
 T=>(W4 L M N O∧W4 Q R S T)∧L4 (N4 L M N O*N4 Q R S T%qN) fun ae af ag ah=>B4 0 0 0 0 fun V X Y Z=>B4 H I J K fun aa ab ac ad=>(W4 V X Y Z∧W4 aa ab ac ad)∧L4 (N4 V X Y Z*N4 aa ab ac ad%qN) fun m n o p=>((W4 0 0 0 0
 ∧W4 m n o p)∧0<qI∧V4 m n o p<qI)∧L4 ((0+(qN-N4 m n o p))%qN) fun ai aj ak al=>P (.agg [U ae,U af,U ag,U ah,U ai,U aj,U ak,U al])):=by kernel_rfl
theorem mule_walk {A B:Nat} {a0 a1 a2 a3 b0 b1 b2 b3:Int} {P:SV→Prop} (ha:Ws a0 a1 a2 a3 A) (hb:Ws b0 b1 b2 b3 B) (la:A<qN) (lb:B<qN) (hP:P (agF (lm (A*B%qN) 0) (lm (A*B%qN) 1) (lm (A*B%qN) 2) (lm (A*B%qN) 3))):
  execF cxE u9 Tryz.f27 64 [agF a0 a1 a2 a3,agF b0 b1 b2 b3] (memL []) fun v _=>P v:=by
 rw[vc_mule]
 have wa:W4 a0 a1 a2 a3=True:=eq_true ha.wd
 have na:N4 a0 a1 a2 a3=A:=Vx ha
 have va:(V4 a0 a1 a2 a3<qI)=True:=eq_true (by rw[ha.val,qI_eq];omega)
 have wb:W4 b0 b1 b2 b3=True:=eq_true hb.wd
 have nb:N4 b0 b1 b2 b3=B:=Vx hb
 have vb:(V4 b0 b1 b2 b3<qI)=True:=eq_true (by rw[hb.val,qI_eq];omega)
 simp only[wa,wb,na,nb,A4_eq,↓L4_eq,↓B4_eq,N4q,N4_0,W4l,W4_0,Vq_lt,V0_lt,true_and,and_self,mul_z,z_mul,sub_z,z_add,Nat.mod_mod,lm0]
 exact hP
def rMule:R0:=fun args l=>
 match args,l with
 | [.agg [.int .u64 (.sym a0),.int .u64 (.sym a1),.int .u64 (.sym a2),.int .u64 (.sym a3),.int .u64 (.sym a4),.int .u64 (.sym a5),.int .u64 (.sym a6),.int .u64 (.sym a7)],.agg [.int .u64 (.sym b0),.int .u64 (.sym b1),.int .u64 (.sym b2),.int .u64 (.sym b3),.int .u64 (.sym b4),.int .u64 (.sym b5),.int .u64 (.sym b6),.int .u64 (.sym b7)]],[]=>some (some ((((Wd a0∧Wd a1∧Wd a2∧Wd a3)∧(Wd b0∧Wd b1∧Wd b2∧Wd b3))∧(V4 a0 a1 a2 a3<21888242871839275222246405745257275088696311157297823662689037894645226208583∧V4 b0 b1 b2 b3<21888242871839275222246405745257275088696311157297823662689037894645226208583))∧(a4=0∧a5=0∧a6=0∧a7=0)∧(b4=0∧b5=0∧b6=0∧b7=0)),agF (lm ((V4 a0 a1 a2 a3).toNat*(V4 b0 b1 b2 b3).toNat%qN) 0) (lm ((V4 a0 a1 a2 a3).toNat*(V4 b0 b1 b2 b3).toNat%qN) 1) (lm ((V4 a0 a1 a2 a3).toNat*(V4 b0 b1 b2 b3).toNat%qN) 2) (lm ((V4 a0 a1 a2 a3).toNat*(V4 b0 b1 b2 b3).toNat%qN) 3))
 | _,_=>none
theorem Mule_ok (args:List SV) (l:List (Nat×Reg)) (p:Ob) (v:SV) (h:rMule args l=some (p,v)) (hp:p.ok):∃U,execF cxE U Tryz.f27 64 args (memL l) fun v' _=>v'=v:=by
 unfold rMule at h
 split at h
 ·rename_i a0 a1 a2 a3 a4 a5 a6 a7 b0 b1 b2 b3 b4 b5 b6 b7
  simp only[Option.some.injEq,Prod.mk.injEq]at h
  obtain ⟨rfl,rfl⟩:=h
  have hp:(((Wd a0∧Wd a1∧Wd a2∧Wd a3)∧(Wd b0∧Wd b1∧Wd b2∧Wd b3))∧(V4 a0 a1 a2 a3<21888242871839275222246405745257275088696311157297823662689037894645226208583∧V4 b0 b1 b2 b3<21888242871839275222246405745257275088696311157297823662689037894645226208583))∧(a4=0∧a5=0∧a6=0∧a7=0)∧(b4=0∧b5=0∧b6=0∧b7=0):=hp
  obtain ⟨⟨⟨wa,wb⟩,la,lb⟩,⟨z0,z1,z2,z3⟩,z4,z5,z6,z7⟩:=hp
  subst z0 z1 z2 z3 z4 z5 z6 z7
  have A:=ws_of wa.1 wa.2.1 wa.2.2.1 wa.2.2.2
  have B:=ws_of wb.1 wb.2.1 wb.2.2.1 wb.2.2.2
  have ea:=Ws.val A
  have eb:=Ws.val B
  exact ⟨_,mule_walk A B (by unfold qN;omega) (by unfold qN;omega) rfl⟩
 ·cases h
def cMule:Rd Tryz.prog:=mkR mixed 27 Tryz.func27 (by decide) (by kernel_rfl) [] [.num,.num] rMule Mule_ok
theorem adde_walk {A B:Nat} {a0 a1 a2 a3 b0 b1 b2 b3:Int} {P:SV→Prop} (ha:Ws a0 a1 a2 a3 A) (hb:Ws b0 b1 b2 b3 B) (la:A<qN) (lb:B<qN) (hP:P (agF (lm ((A+B)%qN) 0) (lm ((A+B)%qN) 1) (lm ((A+B)%qN) 2) (lm ((A+B)%qN) 3))):
  execF cxE u9 Tryz.f32 64 [agF a0 a1 a2 a3,agF b0 b1 b2 b3] (memL []) fun v _=>P v:=by
 rw[vc_adde]
 have wa:W4 a0 a1 a2 a3=True:=eq_true ha.wd
 have na:N4 a0 a1 a2 a3=A:=Vx ha
 have va:(V4 a0 a1 a2 a3<qI)=True:=eq_true (by rw[ha.val,qI_eq];omega)
 have wb:W4 b0 b1 b2 b3=True:=eq_true hb.wd
 have nb:N4 b0 b1 b2 b3=B:=Vx hb
 have vb:(V4 b0 b1 b2 b3<qI)=True:=eq_true (by rw[hb.val,qI_eq];omega)
 simp only[wa,wb,na,nb,va,vb,A4_eq,↓L4_eq,↓B4_eq,N4_0,W4_0,V0_lt,true_and,and_self,z_add,lm0]
 exact hP
def rAdde:R0:=fun args l=>
 match args,l with
 | [.agg [.int .u64 (.sym a0),.int .u64 (.sym a1),.int .u64 (.sym a2),.int .u64 (.sym a3),.int .u64 (.sym a4),.int .u64 (.sym a5),.int .u64 (.sym a6),.int .u64 (.sym a7)],.agg [.int .u64 (.sym b0),.int .u64 (.sym b1),.int .u64 (.sym b2),.int .u64 (.sym b3),.int .u64 (.sym b4),.int .u64 (.sym b5),.int .u64 (.sym b6),.int .u64 (.sym b7)]],[]=>some (some ((((Wd a0∧Wd a1∧Wd a2∧Wd a3)∧(Wd b0∧Wd b1∧Wd b2∧Wd b3))∧(V4 a0 a1 a2 a3<21888242871839275222246405745257275088696311157297823662689037894645226208583∧V4 b0 b1 b2 b3<21888242871839275222246405745257275088696311157297823662689037894645226208583))∧(a4=0∧a5=0∧a6=0∧a7=0)∧(b4=0∧b5=0∧b6=0∧b7=0)),agF (lm (((V4 a0 a1 a2 a3).toNat+(V4 b0 b1 b2 b3).toNat)%qN) 0) (lm (((V4 a0 a1 a2 a3).toNat+(V4 b0 b1 b2 b3).toNat)%qN) 1) (lm (((V4 a0 a1 a2 a3).toNat+(V4 b0 b1 b2 b3).toNat)%qN) 2) (lm (((V4 a0 a1 a2 a3).toNat+(V4 b0 b1 b2 b3).toNat)%qN) 3))
 | _,_=>none
theorem Adde_ok (args:List SV) (l:List (Nat×Reg)) (p:Ob) (v:SV) (h:rAdde args l=some (p,v)) (hp:p.ok):∃U,execF cxE U Tryz.f32 64 args (memL l) fun v' _=>v'=v:=by
 unfold rAdde at h
 split at h
 ·rename_i a0 a1 a2 a3 a4 a5 a6 a7 b0 b1 b2 b3 b4 b5 b6 b7
  simp only[Option.some.injEq,Prod.mk.injEq]at h
  obtain ⟨rfl,rfl⟩:=h
  have hp:(((Wd a0∧Wd a1∧Wd a2∧Wd a3)∧(Wd b0∧Wd b1∧Wd b2∧Wd b3))∧(V4 a0 a1 a2 a3<21888242871839275222246405745257275088696311157297823662689037894645226208583∧V4 b0 b1 b2 b3<21888242871839275222246405745257275088696311157297823662689037894645226208583))∧(a4=0∧a5=0∧a6=0∧a7=0)∧(b4=0∧b5=0∧b6=0∧b7=0):=hp
  obtain ⟨⟨⟨wa,wb⟩,la,lb⟩,⟨z0,z1,z2,z3⟩,z4,z5,z6,z7⟩:=hp
  subst z0 z1 z2 z3 z4 z5 z6 z7
  have A:=ws_of wa.1 wa.2.1 wa.2.2.1 wa.2.2.2
  have B:=ws_of wb.1 wb.2.1 wb.2.2.1 wb.2.2.2
  have ea:=Ws.val A
  have eb:=Ws.val B
  exact ⟨_,adde_walk A B (by unfold qN;omega) (by unfold qN;omega) rfl⟩
 ·cases h
def cAdde:Rd Tryz.prog:=mkR mixed 32 Tryz.func32 (by decide) (by kernel_rfl) [] [.num,.num] rAdde Adde_ok
theorem sube_walk {A B:Nat} {a0 a1 a2 a3 b0 b1 b2 b3:Int} {P:SV→Prop} (ha:Ws a0 a1 a2 a3 A) (hb:Ws b0 b1 b2 b3 B) (la:A<qN) (lb:B<qN) (hP:P (agF (lm ((A+(qN-B))%qN) 0) (lm ((A+(qN-B))%qN) 1) (lm ((A+(qN-B))%qN) 2) (lm ((A+(qN-B))%qN) 3))):
  execF cxE u9 Tryz.f29 64 [agF a0 a1 a2 a3,agF b0 b1 b2 b3] (memL []) fun v _=>P v:=by
 rw[vc_sube]
 have wa:W4 a0 a1 a2 a3=True:=eq_true ha.wd
 have na:N4 a0 a1 a2 a3=A:=Vx ha
 have va:(V4 a0 a1 a2 a3<qI)=True:=eq_true (by rw[ha.val,qI_eq];omega)
 have wb:W4 b0 b1 b2 b3=True:=eq_true hb.wd
 have nb:N4 b0 b1 b2 b3=B:=Vx hb
 have vb:(V4 b0 b1 b2 b3<qI)=True:=eq_true (by rw[hb.val,qI_eq];omega)
 simp only[wa,wb,na,nb,va,vb,↓L4_eq,↓B4_eq,N4_0,W4_0,V0_lt,true_and,and_self,z_sub,lm0]
 exact hP
def rSube:R0:=fun args l=>
 match args,l with
 | [.agg [.int .u64 (.sym a0),.int .u64 (.sym a1),.int .u64 (.sym a2),.int .u64 (.sym a3),.int .u64 (.sym a4),.int .u64 (.sym a5),.int .u64 (.sym a6),.int .u64 (.sym a7)],.agg [.int .u64 (.sym b0),.int .u64 (.sym b1),.int .u64 (.sym b2),.int .u64 (.sym b3),.int .u64 (.sym b4),.int .u64 (.sym b5),.int .u64 (.sym b6),.int .u64 (.sym b7)]],[]=>some (some ((((Wd a0∧Wd a1∧Wd a2∧Wd a3)∧(Wd b0∧Wd b1∧Wd b2∧Wd b3))∧(V4 a0 a1 a2 a3<21888242871839275222246405745257275088696311157297823662689037894645226208583∧V4 b0 b1 b2 b3<21888242871839275222246405745257275088696311157297823662689037894645226208583))∧(a4=0∧a5=0∧a6=0∧a7=0)∧(b4=0∧b5=0∧b6=0∧b7=0)),agF (lm (((V4 a0 a1 a2 a3).toNat+(qN-(V4 b0 b1 b2 b3).toNat))%qN) 0) (lm (((V4 a0 a1 a2 a3).toNat+(qN-(V4 b0 b1 b2 b3).toNat))%qN) 1) (lm (((V4 a0 a1 a2 a3).toNat+(qN-(V4 b0 b1 b2 b3).toNat))%qN) 2) (lm (((V4 a0 a1 a2 a3).toNat+(qN-(V4 b0 b1 b2 b3).toNat))%qN) 3))
 | _,_=>none
theorem Sube_ok (args:List SV) (l:List (Nat×Reg)) (p:Ob) (v:SV) (h:rSube args l=some (p,v)) (hp:p.ok):∃U,execF cxE U Tryz.f29 64 args (memL l) fun v' _=>v'=v:=by
 unfold rSube at h
 split at h
 ·rename_i a0 a1 a2 a3 a4 a5 a6 a7 b0 b1 b2 b3 b4 b5 b6 b7
  simp only[Option.some.injEq,Prod.mk.injEq]at h
  obtain ⟨rfl,rfl⟩:=h
  have hp:(((Wd a0∧Wd a1∧Wd a2∧Wd a3)∧(Wd b0∧Wd b1∧Wd b2∧Wd b3))∧(V4 a0 a1 a2 a3<21888242871839275222246405745257275088696311157297823662689037894645226208583∧V4 b0 b1 b2 b3<21888242871839275222246405745257275088696311157297823662689037894645226208583))∧(a4=0∧a5=0∧a6=0∧a7=0)∧(b4=0∧b5=0∧b6=0∧b7=0):=hp
  obtain ⟨⟨⟨wa,wb⟩,la,lb⟩,⟨z0,z1,z2,z3⟩,z4,z5,z6,z7⟩:=hp
  subst z0 z1 z2 z3 z4 z5 z6 z7
  have A:=ws_of wa.1 wa.2.1 wa.2.2.1 wa.2.2.2
  have B:=ws_of wb.1 wb.2.1 wb.2.2.1 wb.2.2.2
  have ea:=Ws.val A
  have eb:=Ws.val B
  exact ⟨_,sube_walk A B (by unfold qN;omega) (by unfold qN;omega) rfl⟩
 ·cases h
def cSube:Rd Tryz.prog:=mkR mixed 29 Tryz.func29 (by decide) (by kernel_rfl) [] [.num,.num] rSube Sube_ok
theorem inve_walk {A:Nat} {a0 a1 a2 a3:Int} {P:SV→Prop} (ha:Ws a0 a1 a2 a3 A) (la:A<qN) (hP:P (agF (lm (inv0 A) 0) (lm (inv0 A) 1) (lm (inv0 A) 2) (lm (inv0 A) 3))):
  execF cxE u9 Tryz.f31 64 [agF a0 a1 a2 a3] (memL []) fun v _=>P v:=by
 rw[vc_inve]
 have wq:W4 4332616871279656263 10917124144477883021 13281191951274694749 3486998266802970665=True:=eq_true q_ws.wd
 have wa:W4 a0 a1 a2 a3=True:=eq_true ha.wd
 have na:N4 a0 a1 a2 a3=A:=Vx ha
 have va:(V4 a0 a1 a2 a3<qI)=True:=eq_true (by rw[ha.val,qI_eq];omega)
 have h:=inv_e la
 simp only[wa,wq,na,A4_eq,↓L4_eq,↓B4_eq,N4q,N4i,N4_0,W4l,W4_0,Vq_lt,V0_lt,z_lt,true_and,and_self,z_mul,sub_z,z_add,Nat.add_zero,Nat.mod_mod,lm0,h]
 exact hP
def rInve:R0:=fun args l=>
 match args,l with
 | [.agg [.int .u64 (.sym a0),.int .u64 (.sym a1),.int .u64 (.sym a2),.int .u64 (.sym a3),.int .u64 (.sym a4),.int .u64 (.sym a5),.int .u64 (.sym a6),.int .u64 (.sym a7)]],[]=>some (some (((Wd a0∧Wd a1∧Wd a2∧Wd a3)∧V4 a0 a1 a2 a3<21888242871839275222246405745257275088696311157297823662689037894645226208583)∧(a4=0∧a5=0∧a6=0∧a7=0)),agF (lm (inv0 (V4 a0 a1 a2 a3).toNat) 0) (lm (inv0 (V4 a0 a1 a2 a3).toNat) 1) (lm (inv0 (V4 a0 a1 a2 a3).toNat) 2) (lm (inv0 (V4 a0 a1 a2 a3).toNat) 3))
 | _,_=>none
theorem Inve_ok (args:List SV) (l:List (Nat×Reg)) (p:Ob) (v:SV) (h:rInve args l=some (p,v)) (hp:p.ok):∃U,execF cxE U Tryz.f31 64 args (memL l) fun v' _=>v'=v:=by
 unfold rInve at h
 split at h
 ·rename_i a0 a1 a2 a3 a4 a5 a6 a7
  simp only[Option.some.injEq,Prod.mk.injEq]at h
  obtain ⟨rfl,rfl⟩:=h
  have hp:((Wd a0∧Wd a1∧Wd a2∧Wd a3)∧V4 a0 a1 a2 a3<21888242871839275222246405745257275088696311157297823662689037894645226208583)∧(a4=0∧a5=0∧a6=0∧a7=0):=hp
  obtain ⟨⟨wa,la⟩,z0,z1,z2,z3⟩:=hp
  subst z0 z1 z2 z3
  have A:=ws_of wa.1 wa.2.1 wa.2.2.1 wa.2.2.2
  have ea:=Ws.val A
  exact ⟨_,inve_walk A (by unfold qN;omega) rfl⟩
 ·cases h
def cInve:Rd Tryz.prog:=mkR mixed 31 Tryz.func31 (by decide) (by kernel_rfl) [] [.num] rInve Inve_ok
theorem vc_small (n:Int) (P:SV→Prop):(execF cxE u9 Tryz.f34 64 [.int .i64 (.sym n)] (memL []) fun v _=>P v)=(B1 (IntKind.wrap IntKind.u64 n) fun a=>P (.agg [U a,.int .u64 (.lit 0),.int .u64 (.lit 0),.int .u64 (.lit 0)])):=by kernel_rfl
def rSmall:R0:=fun args l=>
 match args,l with
 | [.int .i64 (.sym n)],[]=>some (some (0≤n∧n<18446744073709551616),.agg [.int .u64 (.sym n),.int .u64 (.sym 0),.int .u64 (.sym 0),.int .u64 (.sym 0)])
 | _,_=>none
theorem Small_ok (args:List SV) (l:List (Nat×Reg)) (p:Ob) (v:SV) (h:rSmall args l=some (p,v)) (hp:p.ok):∃U,execF cxE U Tryz.f34 64 args (memL l) fun v' _=>∀β u,Den β v' u→Den β v u:=by
 unfold rSmall at h
 split at h
 ·rename_i n
  simp only[Option.some.injEq,Prod.mk.injEq]at h
  obtain ⟨rfl,rfl⟩:=h
  have hp:0≤n∧n<18446744073709551616:=hp
  refine ⟨u9,?_⟩
  rw[vc_small,B1_eq,wu64,Int.emod_eq_of_lt hp.1 hp.2]
  intro β u hu
  exact hu
 ·cases h
def cSmall:Rd Tryz.prog:=mkQ mixed 34 Tryz.func34 (by decide) (by kernel_rfl) [] [.num] rSmall Small_ok
def cxO:Cx Tryz.prog:= { rds:= [cSmall],efs:= [],eqs:= [] }
theorem vc_one (n:Int) (P:SV→Prop):(execF cxO u9 Tryz.f14 64 [.int .i64 (.sym n)] (memL []) fun v _=>P v)=((0≤n∧n<18446744073709551616)∧B4 n 0 0 0 fun a b c d=>P (.agg [U a,U b,U c,U d,.int .u64 (.lit 0),.int .u64
 (.lit 0),.int .u64 (.lit 0),.int .u64 (.lit 0)])):=by kernel_rfl
def rOne:R0:=fun args l=>
 match args,l with
 | [.int .i64 (.sym n)],[]=>some (some (0≤n∧n<18446744073709551616),agF n 0 0 0)
 | _,_=>none
theorem One_ok (args:List SV) (l:List (Nat×Reg)) (p:Ob) (v:SV) (h:rOne args l=some (p,v)) (hp:p.ok):∃U,execF cxO U Tryz.f14 64 args (memL l) fun v' _=>∀β u,Den β v' u→Den β v u:=by
 unfold rOne at h
 split at h
 ·rename_i n
  simp only[Option.some.injEq,Prod.mk.injEq]at h
  obtain ⟨rfl,rfl⟩:=h
  have hp:0≤n∧n<18446744073709551616:=hp
  refine ⟨u9,?_⟩
  rw[vc_one]
  refine ⟨hp,?_⟩
  rw[B4_eq]
  intro β u hu
  exact hu
 ·cases h
def cOne:Rd Tryz.prog:=mkQ mixed 14 Tryz.func14 (by decide) (by kernel_rfl) [] [.num] rOne One_ok
def cxE2:Cx Tryz.prog:= { rds:= [cRt],efs:= [],eqs:= [eq23] }
theorem vc_sign (a0 a1 a2 a3:Int) (P:SV→Prop):(execF cxE2 u9 Tryz.f30 64 [agF a0 a1 a2 a3] (memL []) fun v _=>P v)=(B4 a0 a1 a2 a3 fun a b c d=>(decide ([a,b,c,d]= [0,0,0,0])=true→B1 0 fun e=>P (U e))∧(decide
 ([a,b,c,d]= [0,0,0,0])=false→B1 (Int.tmod a0 2) fun f=>P (U f))):=by kernel_rfl
theorem vc_roote (a0 a1 a2 a3:Int) (P:SV→Prop):(execF cxE2 u9 Tryz.f28 64 [agF a0 a1 a2 a3] (memL []) fun v _=>P v)=(B4 0 0 0 0 fun e f g h=>(decide ([e,f,g,h]= [0,0,0,0])=true→B4 a0 a1 a2 a3 fun a b c d=>W4 a b c
 d∧(sqN (N4 a b c d)=true→L4 (rtN (N4 a b c d)) fun i j k l=>P (.tup [.agg [U i,U j,U k,U l,.int .u64 (.lit 0),.int .u64 (.lit 0),.int .u64 (.lit 0),.int .u64 (.lit 0)],.bool (.lit true)]))∧(sqN (N4 a b c d)=false→B4
 a0 a1 a2 a3 fun m n o p=>False))∧(decide ([e,f,g,h]= [0,0,0,0])=false→False)):=by kernel_rfl
theorem vc_issq (a0 a1 a2 a3:Int) (P:SV→Prop):(execF cxE2 u9 Tryz.f33 64 [agF a0 a1 a2 a3,.bool (.lit true)] (memL []) fun v _=>P v)=(B4 a0 a1 a2 a3 fun a b c d=>W4 a b c d∧P (.bool (.sym (sqN (N4 a b c d))))):=by kernel_rfl
def rSign:R0:=fun args l=>
 match args,l with
 | [.agg [.int .u64 (.sym a0),.int .u64 (.sym a1),.int .u64 (.sym a2),.int .u64 (.sym a3),.int .u64 (.sym a4),.int .u64 (.sym a5),.int .u64 (.sym a6),.int .u64 (.sym a7)]],[]=>some (some ((Wd a0∧Wd a1∧Wd a2∧Wd a3)∧(a4=0∧a5=0∧a6=0∧a7=0)),.int .u64 (.sym (((V4 a0 a1 a2 a3).toNat%2:Nat):Int)))
 | _,_=>none
theorem Sign_ok (args:List SV) (l:List (Nat×Reg)) (p:Ob) (v:SV) (h:rSign args l=some (p,v)) (hp:p.ok):∃U,execF cxE2 U Tryz.f30 64 args (memL l) fun v' _=>v'=v:=by
 unfold rSign at h
 split at h
 ·rename_i a0 a1 a2 a3 a4 a5 a6 a7
  simp only[Option.some.injEq,Prod.mk.injEq]at h
  obtain ⟨rfl,rfl⟩:=h
  have hp:(Wd a0∧Wd a1∧Wd a2∧Wd a3)∧(a4=0∧a5=0∧a6=0∧a7=0):=hp
  obtain ⟨wa,z0,z1,z2,z3⟩:=hp
  subst z0 z1 z2 z3
  have A:=ws_of wa.1 wa.2.1 wa.2.2.1 wa.2.2.2
  refine ⟨u9,?_⟩
  have:=vc_sign a0 a1 a2 a3 fun v'=>v'= .int .u64 (.sym (((V4 a0 a1 a2 a3).toNat%2:Nat):Int))
  unfold agF at this
  refine this.mpr ?_
  clear this
  rw[B4_eq,B1_eq,B1_eq]
  refine ⟨fun h=> ?_,fun h=> ?_⟩
  ·have e:=(list_lit A 0 (by decide) (by decide)).1 (of_decide_eq_true h)
   rw[show (V4 a0 a1 a2 a3).toNat=0 by omega]
   rfl
  ·rw[par A]
   rfl
 ·cases h
def cSign:Rd Tryz.prog:=mkR mixed 30 Tryz.func30 (by decide) (by kernel_rfl) [] [.num] rSign Sign_ok
def rRe:R0:=fun args l=>
 match args,l with
 | [.agg [.int .u64 (.sym a0),.int .u64 (.sym a1),.int .u64 (.sym a2),.int .u64 (.sym a3),.int .u64 (.sym a4),.int .u64 (.sym a5),.int .u64 (.sym a6),.int .u64 (.sym a7)]],[]=>some (some (((Wd a0∧Wd a1∧Wd a2∧Wd a3)∧(a4=0∧a5=0∧a6=0∧a7=0))∧sqN (V4 a0 a1 a2 a3).toNat=true),.tup [agF (lm (rtN (V4 a0 a1 a2 a3).toNat) 0) (lm (rtN (V4 a0 a1 a2 a3).toNat) 1) (lm (rtN (V4 a0 a1 a2 a3).toNat) 2) (lm (rtN (V4 a0 a1 a2 a3).toNat) 3),.bool (.sym true)])
 | _,_=>none
theorem Re_ok (args:List SV) (l:List (Nat×Reg)) (p:Ob) (v:SV) (h:rRe args l=some (p,v)) (hp:p.ok):∃U,execF cxE2 U Tryz.f28 64 args (memL l) fun v' _=>∀β u,Den β v' u→Den β v u:=by
 unfold rRe at h
 split at h
 ·rename_i a0 a1 a2 a3 a4 a5 a6 a7
  simp only[Option.some.injEq,Prod.mk.injEq]at h
  obtain ⟨rfl,rfl⟩:=h
  have hp:((Wd a0∧Wd a1∧Wd a2∧Wd a3)∧(a4=0∧a5=0∧a6=0∧a7=0))∧sqN (V4 a0 a1 a2 a3).toNat=true:=hp
  obtain ⟨⟨wa,z0,z1,z2,z3⟩,hs⟩:=hp
  subst z0 z1 z2 z3
  refine ⟨u9,?_⟩
  have:=vc_roote a0 a1 a2 a3 fun v'=>∀β u,Den β v' u→Den β (.tup [agF (lm (rtN (V4 a0 a1 a2 a3).toNat) 0) (lm (rtN (V4 a0 a1 a2 a3).toNat) 1) (lm (rtN (V4 a0 a1 a2 a3).toNat) 2) (lm (rtN (V4 a0 a1 a2 a3).toNat) 3),.bool (.sym true)]) u
  unfold agF at this
  refine this.mpr ?_
  clear this
  rw[B4_eq]
  refine ⟨fun _=> ?_,fun h=>absurd h (by decide)⟩
  rw[B4_eq]
  refine ⟨wa,fun _=> ?_,fun h=> ?_⟩
  ·rw[L4_eq]
   intro β u hu
   exact hu
  ·exact absurd (h.symm.trans hs) (by decide)
 ·cases h
def cRe:Rd Tryz.prog:=mkQ mixed 28 Tryz.func28 (by decide) (by kernel_rfl) [] [.num] rRe Re_ok
def rIs:R0:=fun args l=>
 match args,l with
 | [.agg [.int .u64 (.sym a0),.int .u64 (.sym a1),.int .u64 (.sym a2),.int .u64 (.sym a3),.int .u64 (.sym a4),.int .u64 (.sym a5),.int .u64 (.sym a6),.int .u64 (.sym a7)],.bool (.lit true)],[]=>some (some ((Wd a0∧Wd a1∧Wd a2∧Wd a3)∧(a4=0∧a5=0∧a6=0∧a7=0)),.bool (.sym (sqN (V4 a0 a1 a2 a3).toNat)))
 | _,_=>none
theorem Is_ok (args:List SV) (l:List (Nat×Reg)) (p:Ob) (v:SV) (h:rIs args l=some (p,v)) (hp:p.ok):∃U,execF cxE2 U Tryz.f33 64 args (memL l) fun v' _=>v'=v:=by
 unfold rIs at h
 split at h
 ·rename_i a0 a1 a2 a3 a4 a5 a6 a7
  simp only[Option.some.injEq,Prod.mk.injEq]at h
  obtain ⟨rfl,rfl⟩:=h
  have hp:(Wd a0∧Wd a1∧Wd a2∧Wd a3)∧(a4=0∧a5=0∧a6=0∧a7=0):=hp
  obtain ⟨wa,z0,z1,z2,z3⟩:=hp
  subst z0 z1 z2 z3
  refine ⟨u9,?_⟩
  have:=vc_issq a0 a1 a2 a3 fun v'=>v'= .bool (.sym (sqN (V4 a0 a1 a2 a3).toNat))
  unfold agF at this
  refine this.mpr ?_
  clear this
  rw[B4_eq]
  exact ⟨wa,rfl⟩
 ·cases h
def cIs:Rd Tryz.prog:=mkR mixed 33 Tryz.func33 (by decide) (by kernel_rfl) [] [.num,.val] rIs Is_ok
def cxCv:Cx Tryz.prog:= { rds:= [cMule,cAdde],efs:= [],eqs:= [] }
theorem vc_cv (a0 a1 a2 a3 b0 b1 b2 b3:Int) (P:SV→Prop):(execF cxCv u9 Tryz.f26 64 [agF a0 a1 a2 a3,agF b0 b1 b2 b3] (memL []) fun v _=>P v)=(B4 a0 a1 a2 a3 fun a b c d=>B4 0 0 0 0 fun z A B C=>B4 a0 a1 a2 a3 fun e f g h=>
 B4 0 0 0 0 fun D E F G=>B4 a0 a1 a2 a3 fun i j k l=>B4 0 0 0 0 fun H I J K=>(((W4 e f g h∧W4 i j k l)∧V4 e f g h<qI∧V4 i j k l<qI)∧Z4 D E F G∧Z4 H I J K)∧L4 (N4 e f g h*N4 i j k l%qN) fun m n o p=>B4 0 0 0 0 fun
 L M N O=>(((W4 a b c d∧W4 m n o p)∧V4 a b c d<qI∧V4 m n o p<qI)∧Z4 z A B C∧Z4 L M N O)∧L4 (N4 a b c d*N4 m n o p%qN) fun q r s t=>B4 0 0 0 0 fun Q R S T=>B4 b0 b1 b2 b3 fun u w x y=>B4 0 0 0 0 fun V X Y Z=>
 (((W4 q r s t∧W4 u w x y)∧V4 q r s t<qI∧V4 u w x y<qI)∧Z4 Q R S T∧Z4 V X Y Z)∧L4 ((N4 q r s t+N4 u w x y)%qN) fun aa ab ac ad=>B4 0 0 0 0 fun ae af ag ah=>P (.agg [U aa,U ab,U ac,U ad,U ae,U af,U ag,U ah])):=by kernel_rfl
theorem cv_walk {A B:Nat} {a0 a1 a2 a3 b0 b1 b2 b3:Int} {P:SV→Prop} (ha:Ws a0 a1 a2 a3 A) (hb:Ws b0 b1 b2 b3 B) (la:A<qN) (lb:B<qN) (hP:P (agF (lm ((A*(A*A%qN)%qN+B)%qN) 0) (lm ((A*(A*A%qN)%qN+B)%qN) 1) (lm ((A*(A*A%qN)%qN+B)%qN) 2) (lm ((A*(A*A%qN)%qN+B)%qN) 3))):
  execF cxCv u9 Tryz.f26 64 [agF a0 a1 a2 a3,agF b0 b1 b2 b3] (memL []) fun v _=>P v:=by
 rw[vc_cv]
 have wa:W4 a0 a1 a2 a3=True:=eq_true ha.wd
 have na:N4 a0 a1 a2 a3=A:=Vx ha
 have va:(V4 a0 a1 a2 a3<qI)=True:=eq_true (by rw[ha.val,qI_eq];omega)
 have wb:W4 b0 b1 b2 b3=True:=eq_true hb.wd
 have nb:N4 b0 b1 b2 b3=B:=Vx hb
 have vb:(V4 b0 b1 b2 b3<qI)=True:=eq_true (by rw[hb.val,qI_eq];omega)
 simp only[wa,wb,na,nb,va,vb,↓L4_eq,↓B4_eq,Z4_0,N4q,W4l,Vq_lt,true_and,and_self]
 exact hP
def rCv:R0:=fun args l=>
 match args,l with
 | [.agg [.int .u64 (.sym a0),.int .u64 (.sym a1),.int .u64 (.sym a2),.int .u64 (.sym a3),.int .u64 (.sym a4),.int .u64 (.sym a5),.int .u64 (.sym a6),.int .u64 (.sym a7)],.agg [.int .u64 (.sym b0),.int .u64 (.sym b1),.int .u64 (.sym b2),.int .u64 (.sym b3),.int .u64 (.sym b4),.int .u64 (.sym b5),.int .u64 (.sym b6),.int .u64 (.sym b7)]],[]=>some (some ((((Wd a0∧Wd a1∧Wd a2∧Wd a3)∧(Wd b0∧Wd b1∧Wd b2∧Wd b3))∧(V4 a0 a1 a2 a3<21888242871839275222246405745257275088696311157297823662689037894645226208583∧V4 b0 b1 b2 b3<21888242871839275222246405745257275088696311157297823662689037894645226208583))∧(a4=0∧a5=0∧a6=0∧a7=0)∧(b4=0∧b5=0∧b6=0∧b7=0)),agF (lm (((V4 a0 a1 a2 a3).toNat*((V4 a0 a1 a2 a3).toNat*(V4 a0 a1 a2 a3).toNat%qN)%qN+(V4 b0 b1 b2 b3).toNat)%qN) 0) (lm (((V4 a0 a1 a2 a3).toNat*((V4 a0 a1 a2 a3).toNat*(V4 a0 a1 a2 a3).toNat%qN)%qN+(V4 b0 b1 b2 b3).toNat)%qN) 1) (lm (((V4 a0 a1 a2 a3).toNat*((V4 a0 a1 a2 a3).toNat*(V4 a0 a1 a2 a3).toNat%qN)%qN+(V4 b0 b1 b2 b3).toNat)%qN) 2) (lm (((V4 a0 a1 a2 a3).toNat*((V4 a0 a1 a2 a3).toNat*(V4 a0 a1 a2 a3).toNat%qN)%qN+(V4 b0 b1 b2 b3).toNat)%qN) 3))
 | _,_=>none
theorem Cv_ok (args:List SV) (l:List (Nat×Reg)) (p:Ob) (v:SV) (h:rCv args l=some (p,v)) (hp:p.ok):∃U,execF cxCv U Tryz.f26 64 args (memL l) fun v' _=>v'=v:=by
 unfold rCv at h
 split at h
 ·rename_i a0 a1 a2 a3 a4 a5 a6 a7 b0 b1 b2 b3 b4 b5 b6 b7
  simp only[Option.some.injEq,Prod.mk.injEq]at h
  obtain ⟨rfl,rfl⟩:=h
  have hp:(((Wd a0∧Wd a1∧Wd a2∧Wd a3)∧(Wd b0∧Wd b1∧Wd b2∧Wd b3))∧(V4 a0 a1 a2 a3<21888242871839275222246405745257275088696311157297823662689037894645226208583∧V4 b0 b1 b2 b3<21888242871839275222246405745257275088696311157297823662689037894645226208583))∧(a4=0∧a5=0∧a6=0∧a7=0)∧(b4=0∧b5=0∧b6=0∧b7=0):=hp
  obtain ⟨⟨⟨wa,wb⟩,la,lb⟩,⟨z0,z1,z2,z3⟩,z4,z5,z6,z7⟩:=hp
  subst z0 z1 z2 z3 z4 z5 z6 z7
  have A:=ws_of wa.1 wa.2.1 wa.2.2.1 wa.2.2.2
  have B:=ws_of wb.1 wb.2.1 wb.2.2.1 wb.2.2.2
  have ea:=Ws.val A
  have eb:=Ws.val B
  exact ⟨_,cv_walk A B (by unfold qN;omega) (by unfold qN;omega) rfl⟩
 ·cases h
def cCv:Rd Tryz.prog:=mkR mixed 26 Tryz.func26 (by decide) (by kernel_rfl) [] [.num,.num] rCv Cv_ok
def cxSt:Cx Tryz.prog:= { rds:= [cOne,cSube,cCv,cMule,cInve,cIs],efs:= [],eqs:= [eq43] }
def liNo:LI:= { ι:=Nat,keep:= [],keepR:= [],F:=fun _=>⟨[],[]⟩,I:=fun _ _=>False,μ:=fun _=>0,k:=0 }
def uSt:Nat→Lp:=fun _=> .peel liNo
theorem vc_st (P:SV→Prop):(execF cxSt uSt Tryz.f25 64 [agF 3 0 0 0,.bool (.lit true)] (memL []) fun v _=>P v)=(((0:Int)≤1∧(1:Int)<18446744073709551616)∧B4 1 0 0 0 fun x0 x1 x2 x3=>B4 0 0 0 0 fun x4 x5 x6 x7=>((0:
 Int)≤1∧(1:Int)<18446744073709551616)∧B4 1 0 0 0 fun q r s t=>B4 0 0 0 0 fun ct cu cv cw=>(((W4 0 0 0 0∧W4 q r s t)∧0<qI∧V4 q r s t<qI)∧Z4 0 0 0 0∧Z4 ct cu cv cw)∧L4 ((0+(qN-N4 q r s t))%qN) fun fy fz f0
 f1=>B4 0 0 0 0 fun f2 f3 f4 f5=>B4 x0 x1 x2 x3 fun a b c d=>B4 x4 x5 x6 x7 fun e f g h=>B4 a b c d fun i j k l=>B4 e f g h fun cx cy cz c0=>B4 3 0 0 0 fun u w x y=>B4 0 0 0 0 fun c1 c2 c3 c4=>(((W4 i j k l∧W4 u w x y)∧
 V4 i j k l<qI∧V4 u w x y<qI)∧Z4 cx cy cz c0∧Z4 c1 c2 c3 c4)∧L4 ((N4 i j k l*(N4 i j k l*N4 i j k l%qN)%qN+N4 u w x y)%qN) fun z A B C=>B4 0 0 0 0 fun D E F G=>B4 z A B C fun bw bx bz b0=>B4 D E F G fun b1 b2
 b3 b4=>(decide ([bw,bx,bz,b0,b1,b2,b3,b4]= [0,0,0,0,0,0,0,0])=true→(∃f6:Nat,False∧True)∧(Nat→False→False))∧(decide ([bw,bx,bz,b0,b1,b2,b3,b4]= [0,0,0,0,0,0,0,0])=false→(((0:Int)≤3∧
 (3:Int)<18446744073709551616)∧B4 3 0 0 0 fun H I J K=>B4 0 0 0 0 fun c5 c6 c7 c8=>B4 a b c d fun L M N O=>B4 e f g h fun c9 da db dc=>B4 a b c d fun Q R S T=>B4 e f g h fun dd de df dg=>(((W4 L M N O∧W4 Q R S T)∧V4 L
 M N O<qI∧V4 Q R S T<qI)∧Z4 c9 da db dc∧Z4 dd de df dg)∧L4 (N4 L M N O*N4 Q R S T%qN) fun V X Y Z=>B4 0 0 0 0 fun dh di dj dk=>(((W4 H I J K∧W4 V X Y Z)∧V4 H I J K<qI∧V4 V X Y Z<qI)∧Z4 c5 c6 c7 c8∧Z4 dh di
 dj dk)∧L4 (N4 H I J K*N4 V X Y Z%qN) fun aa ab ac ad=>B4 0 0 0 0 fun dl dm dn dp=>((0:Int)≤4∧(4:Int)<18446744073709551616)∧B4 4 0 0 0 fun ae af ag ah=>B4 0 0 0 0 fun dq dr ds dt=>B4 z A B C fun ai aj ak al=>B4 D
 E F G fun du dv dw dx=>(((W4 ae af ag ah∧W4 ai aj ak al)∧V4 ae af ag ah<qI∧V4 ai aj ak al<qI)∧Z4 dq dr ds dt∧Z4 du dv dw dx)∧L4 (N4 ae af ag ah*N4 ai aj ak al%qN) fun am an ao ap=>B4 0 0 0 0 fun dy dz d0 d1=>((W4
 am an ao ap∧V4 am an ao ap<qI)∧Z4 dy dz d0 d1)∧L4 (inv0 (N4 am an ao ap)) fun aq ar au av=>B4 0 0 0 0 fun d2 d3 d4 d5=>(((W4 aa ab ac ad∧W4 aq ar au av)∧V4 aa ab ac ad<qI∧V4 aq ar au av<qI)∧Z4 dl dm dn dp∧Z4 d2 d3
 d4 d5)∧L4 (N4 aa ab ac ad*N4 aq ar au av%qN) fun aw ax ay az=>B4 0 0 0 0 fun d6 d7 d8 d9=>(((W4 0 0 0 0∧W4 aw ax ay az)∧0<qI∧V4 aw ax ay az<qI)∧Z4 0 0 0 0∧Z4 d6 d7 d8 d9)∧L4 ((0+(qN-N4 aw ax ay az))%qN) fun
 b5 b6 b7 b8=>B4 0 0 0 0 fun b9 ca cb cc=>B4 a b c d fun a0 a1 a2 a3=>B4 e f g h fun ea eb ec ed=>(((W4 0 0 0 0∧W4 a0 a1 a2 a3)∧0<qI∧V4 a0 a1 a2 a3<qI)∧Z4 0 0 0 0∧Z4 ea eb ec ed)∧L4 ((0+(qN-N4 a0 a1 a2 a3))%qN)
 fun a4 a5 a6 a7=>B4 0 0 0 0 fun ee ef eg eh=>((0:Int)≤2∧(2:Int)<18446744073709551616)∧B4 2 0 0 0 fun a8 a9 ba bb=>B4 0 0 0 0 fun ei ej ek el=>((W4 a8 a9 ba bb∧V4 a8 a9 ba bb<qI)∧Z4 ei ej ek el)∧L4 (inv0 (N4 a8
 a9 ba bb)) fun bc bd be bf=>B4 0 0 0 0 fun em en eo ep=>(((W4 a4 a5 a6 a7∧W4 bc bd be bf)∧V4 a4 a5 a6 a7<qI∧V4 bc bd be bf<qI)∧Z4 ee ef eg eh∧Z4 em en eo ep)∧L4 (N4 a4 a5 a6 a7*N4 bc bd be bf%qN) fun m n o p=>B4 0
 0 0 0 fun eq er es et=>B4 3 0 0 0 fun bg bh bi bj=>B4 0 0 0 0 fun eu ev ew ex=>(((W4 m n o p∧W4 bg bh bi bj)∧V4 m n o p<qI∧V4 bg bh bi bj<qI)∧Z4 eq er es et∧Z4 eu ev ew ex)∧L4 ((N4 m n o p*(N4 m n o p*N4 m n o p %
 qN)%qN+N4 bg bh bi bj)%qN) fun ey ez e0 e1=>B4 0 0 0 0 fun e2 e3 e4 e5=>B4 b5 b6 b7 b8 fun cd ce cf cg=>B4 b9 ca cb cc fun ch ci cj ck=>(Bool.not (decide ([cd,ce,cf,cg,ch,ci,cj,ck]= [0,0,0,0,0,0,0,0]))=true→
 B4 b5 b6 b7 b8 fun bk bl bm bn=>B4 b9 ca cb cc fun e6 e7 e8 e9=>(W4 bk bl bm bn∧Z4 e6 e7 e8 e9)∧(sqN (N4 bk bl bm bn)=true→B4 z A B C fun bo bp bq br=>B4 D E F G fun fa fb fc fd=>(W4 bo bp bq br∧Z4 fa fb fc fd)∧(sqN (N4
 bo bp bq br)=true→B4 a b c d fun fe ff fg fh=>B4 e f g h fun fi fj fk fl=>P (.agg [U fe,U ff,U fg,U fh,U fi,U fj,U fk,U fl]))∧(sqN (N4 bo bp bq br)=false→B4 ey ez e0 e1 fun bs bt bu bv=>B4 e2 e3 e4 e5 fun fm fn fo fp
 =>(W4 bs bt bu bv∧Z4 fm fn fo fp)∧(sqN (N4 bs bt bu bv)=true→B4 a b c d fun fq fr fs ft=>B4 e f g h fun fu fv fw fx=>P (.agg [U fq,U fr,U fs,U ft,U fu,U fv,U fw,U fx]))∧(sqN (N4 bs bt bu bv)=false→(∃f7:Nat,
 False∧True)∧(Nat→False→False))))∧(sqN (N4 bk bl bm bn)=false→(∃f8:Nat,False∧True)∧(Nat→False→False)))∧(Bool.not (decide ([cd,ce,cf,cg,ch,ci,cj,ck]= [0,0,0,0,0,0,0,0]))=false→(∃f9:Nat,False
 ∧True)∧(Nat→False→False))))):=by kernel_rfl
theorem st_walk {P:SV→Prop} (hP:P (agF 1 0 0 0)):execF cxSt uSt Tryz.f25 64 [agF 3 0 0 0,.bool (.lit true)] (memL []) fun v _=>P v:=by
 rw[vc_st]
 simp only[↓L4_eq,↓B4_eq]
 unfold W4 Z4
 repeat' first
  | exact hP
  | refine ⟨by decide +kernel,?_⟩
  | refine ⟨fun _=> ?_,fun h=>absurd h (by decide +kernel)⟩
  | refine ⟨fun h=>absurd h (by decide +kernel),fun _=> ?_⟩
def rSt:R0:=fun args l=>
 match args,l with
 | [.agg [.int .u64 (.sym b0),.int .u64 (.sym b1),.int .u64 (.sym b2),.int .u64 (.sym b3),.int .u64 (.sym b4),.int .u64 (.sym b5),.int .u64 (.sym b6),.int .u64 (.sym b7)],.bool (.lit true)],[]=>some (some ((b0=3∧b1=0∧b2=0∧b3=0)∧(b4=0∧b5=0∧b6=0∧b7=0)),agF 1 0 0 0)
 | _,_=>none
theorem St_ok (args:List SV) (l:List (Nat×Reg)) (p:Ob) (v:SV) (h:rSt args l=some (p,v)) (hp:p.ok):∃U,execF cxSt U Tryz.f25 64 args (memL l) fun v' _=>v'=v:=by
 unfold rSt at h
 split at h
 ·rename_i b0 b1 b2 b3 b4 b5 b6 b7
  simp only[Option.some.injEq,Prod.mk.injEq]at h
  obtain ⟨rfl,rfl⟩:=h
  have hp:(b0=3∧b1=0∧b2=0∧b3=0)∧(b4=0∧b5=0∧b6=0∧b7=0):=hp
  obtain ⟨⟨y0,y1,y2,y3⟩,z0,z1,z2,z3⟩:=hp
  subst z0 z1 z2 z3 y0 y1 y2 y3
  exact ⟨_,st_walk rfl⟩
 ·cases h
def cSt:Rd Tryz.prog:=mkR mixed 25 Tryz.func25 (by decide) (by kernel_rfl) [] [.num,.val] rSt St_ok
def cxMp:Cx Tryz.prog:= { rds:= [cOne,cSube,cAdde,cCv,cMule,cInve,cIs,cRe,cSign,cSt],efs:= [],eqs:= [eq43] }
def MpR (P:SV→Prop) (x32 x33 x34 x35 x36 x37 x38 x39 x72 x73 x74 x75 x76 x77 x78 x79 x8 x9 x10 x11 x12 x13 x14 x15 u0 u1 u2 u3 x9000 x9001 x9002 x9003 x9010 x9011 x9012 x9013:Int):Prop:=
 ((0:Int)≤4∧(4:Int)<18446744073709551616)∧B4 4 0 0 0 fun y0 y1 y2 y3=>B4 0 0 0 0 fun y4 y5 y6 y7=>B4 x32 x33 x34 x35 fun y8 y9 a1 a2=>B4 x36 x37 x38 x39 fun lp lq lr ls=>(((W4 y0 y1 y2 y3∧W4 y8 y9 a1 a2)∧V4 y0 y1 y2
 y3<qI∧V4 y8 y9 a1 a2<qI)∧Z4 y4 y5 y6 y7∧Z4 lp lq lr ls)∧L4 (N4 y0 y1 y2 y3*N4 y8 y9 a1 a2%qN) fun a3 a4 a5 a6=>B4 0 0 0 0 fun lt lu lv lw=>B4 x72 x73 x74 x75 fun a7 a8 a9 ba=>B4 x76 x77 x78 x79 fun lx ly lz l0=>((W4
 a7 a8 a9 ba∧V4 a7 a8 a9 ba<qI)∧Z4 lx ly lz l0)∧L4 (inv0 (N4 a7 a8 a9 ba)) fun bb bc bd be=>B4 0 0 0 0 fun l1 l2 l3 l4=>(((W4 a3 a4 a5 a6∧W4 bb bc bd be)∧V4 a3 a4 a5 a6<qI∧V4 bb bc bd be<qI)∧Z4 lt lu lv lw∧Z4 l1 l2
 l3 l4)∧L4 (N4 a3 a4 a5 a6*N4 bb bc bd be%qN) fun bf bg bh bi=>B4 0 0 0 0 fun l5 l6 l7 l8=>(((W4 0 0 0 0∧W4 bf bg bh bi)∧0<qI∧V4 bf bg bh bi<qI)∧Z4 0 0 0 0∧Z4 l5 l6 l7 l8)∧L4 ((0+(qN-N4 bf bg bh bi))%qN) fun
 iw ix iy iz=>B4 0 0 0 0 fun i0 i1 i2 i3=>B4 x8 x9 x10 x11 fun bj bk bl bm=>B4 x12 x13 x14 x15 fun l9 ma mb mc=>(((W4 0 0 0 0∧W4 bj bk bl bm)∧0<qI∧V4 bj bk bl bm<qI)∧Z4 0 0 0 0∧Z4 l9 ma mb mc)∧L4 ((0+(qN-N4 bj bk
 bl bm))%qN) fun bn bo bp bq=>B4 0 0 0 0 fun md me mf mg=>((0:Int)≤2∧(2:Int)<18446744073709551616)∧B4 2 0 0 0 fun br bs bt bu=>B4 0 0 0 0 fun mh mi mj mk=>((W4 br bs bt bu∧V4 br bs bt bu<qI)∧Z4 mh mi mj mk)∧L4
 (inv0 (N4 br bs bt bu)) fun bv bw bx bz=>B4 0 0 0 0 fun ml mm mn mo=>(((W4 bn bo bp bq∧W4 bv bw bx bz)∧V4 bn bo bp bq<qI∧V4 bv bw bx bz<qI)∧Z4 md me mf mg∧Z4 ml mm mn mo)∧L4 (N4 bn bo bp bq*N4 bv bw bx bz%qN) fun i4
 i5 i6 i7=>B4 0 0 0 0 fun i8 i9 ja jb=>B4 u0 u1 u2 u3 fun b0 b1 b2 b3=>B4 0 0 0 0 fun mp mq mr ms=>B4 u0 u1 u2 u3 fun b4 b5 b6 b7=>B4 0 0 0 0 fun mt mu mv mw=>(((W4 b0 b1 b2 b3∧W4 b4 b5 b6 b7)∧V4 b0 b1 b2 b3<qI∧V4 b4 b5
 b6 b7<qI)∧Z4 mp mq mr ms∧Z4 mt mu mv mw)∧L4 (N4 b0 b1 b2 b3*N4 b4 b5 b6 b7%qN) fun b8 b9 ca cb=>B4 0 0 0 0 fun mx my mz m0=>B4 x32 x33 x34 x35 fun cc cd ce cf=>B4 x36 x37 x38 x39 fun m1 m2 m3 m4=>(((W4 b8 b9 ca cb∧W4
 cc cd ce cf)∧V4 b8 b9 ca cb<qI∧V4 cc cd ce cf<qI)∧Z4 mx my mz m0∧Z4 m1 m2 m3 m4)∧L4 (N4 b8 b9 ca cb*N4 cc cd ce cf%qN) fun jc jd je jf=>B4 0 0 0 0 fun jg jh ji jj=>((0:Int)≤1∧(1:Int)<18446744073709551616)∧
 B4 1 0 0 0 fun cg ch ci cj=>B4 0 0 0 0 fun m5 m6 m7 m8=>B4 jc jd je jf fun ck cl cm cn=>B4 jg jh ji jj fun m9 na nb nc=>(((W4 cg ch ci cj∧W4 ck cl cm cn)∧V4 cg ch ci cj<qI∧V4 ck cl cm cn<qI)∧Z4 m5 m6 m7 m8∧Z4 m9 na nb
 nc)∧L4 ((N4 cg ch ci cj+N4 ck cl cm cn)%qN) fun a b c d=>B4 0 0 0 0 fun e f g h=>((0:Int)≤1∧(1:Int)<18446744073709551616)∧B4 1 0 0 0 fun co cp cq cr=>B4 0 0 0 0 fun nd ne nf ng=>B4 jc jd je jf fun cs ct cu cv=>
 B4 jg jh ji jj fun nh ni nj nk=>(((W4 co cp cq cr∧W4 cs ct cu cv)∧V4 co cp cq cr<qI∧V4 cs ct cu cv<qI)∧Z4 nd ne nf ng∧Z4 nh ni nj nk)∧L4 ((N4 co cp cq cr+(qN-N4 cs ct cu cv))%qN) fun jk jl jm jn=>B4 0 0 0 0 fun jo
 jp jq jr=>B4 jk jl jm jn fun cw cx cy cz=>B4 jo jp jq jr fun nl nm nn no=>B4 a b c d fun c0 c1 c2 c3=>B4 e f g h fun np nq nr ns=>(((W4 cw cx cy cz∧W4 c0 c1 c2 c3)∧V4 cw cx cy cz<qI∧V4 c0 c1 c2 c3<qI)∧Z4 nl nm nn no∧
 Z4 np nq nr ns)∧L4 (N4 cw cx cy cz*N4 c0 c1 c2 c3%qN) fun c4 c5 c6 c7=>B4 0 0 0 0 fun nt nu nv nw=>((W4 c4 c5 c6 c7∧V4 c4 c5 c6 c7<qI)∧Z4 nt nu nv nw)∧L4 (inv0 (N4 c4 c5 c6 c7)) fun c8 c9 da db=>B4 0 0 0 0 fun dc dd de
 df=>B4 u0 u1 u2 u3 fun dg dh di dj=>B4 0 0 0 0 fun nx ny nz n0=>B4 jk jl jm jn fun dk dl dm dn=>B4 jo jp jq jr fun n1 n2 n3 n4=>(((W4 dg dh di dj∧W4 dk dl dm dn)∧V4 dg dh di dj<qI∧V4 dk dl dm dn<qI)∧Z4 nx ny nz n0∧
 Z4 n1 n2 n3 n4)∧L4 (N4 dg dh di dj*N4 dk dl dm dn%qN) fun dp dq dr ds=>B4 0 0 0 0 fun n5 n6 n7 n8=>B4 c8 c9 da db fun dt du dv dw=>B4 dc dd de df fun n9 oa ob oc=>(((W4 dp dq dr ds∧W4 dt du dv dw)∧V4 dp dq dr ds<qI∧V4
 dt du dv dw<qI)∧Z4 n5 n6 n7 n8∧Z4 n9 oa ob oc)∧L4 (N4 dp dq dr ds*N4 dt du dv dw%qN) fun dx dy dz d0=>B4 0 0 0 0 fun od oe og oh=>B4 x9000 x9001 x9002 x9003 fun d1 d2 d3 d4=>B4 x9010 x9011 x9012 x9013 fun oi oj ok ol=>
 (((W4 dx dy dz d0∧W4 d1 d2 d3 d4)∧V4 dx dy dz d0<qI∧V4 d1 d2 d3 d4<qI)∧Z4 od oe og oh∧Z4 oi oj ok ol)∧L4 (N4 dx dy dz d0*N4 d1 d2 d3 d4%qN) fun js jt ju jv=>B4 0 0 0 0 fun jw jx jy jz=>B4 i4 i5 i6 i7 fun d5 d6 d7 d8
 =>B4 i8 i9 ja jb fun om on oo op=>B4 js jt ju jv fun d9 ea eb ec=>B4 jw jx jy jz fun oq os ot ou=>(((W4 d5 d6 d7 d8∧W4 d9 ea eb ec)∧V4 d5 d6 d7 d8<qI∧V4 d9 ea eb ec<qI)∧Z4 om on oo op∧Z4 oq os ot ou)∧L4 ((N4 d5 d6 d7
 d8+(qN-N4 d9 ea eb ec))%qN) fun i j k l=>B4 0 0 0 0 fun m n o p=>B4 i j k l fun q r s t=>B4 m n o p fun ov ow ox oy=>B4 3 0 0 0 fun ed ee ef eg=>B4 0 0 0 0 fun oz o0 o1 o2=>(((W4 q r s t∧W4 ed ee ef eg)∧V4 q r s t <
 qI∧V4 ed ee ef eg<qI)∧Z4 ov ow ox oy∧Z4 oz o0 o1 o2)∧L4 ((N4 q r s t*(N4 q r s t*N4 q r s t%qN)%qN+N4 ed ee ef eg)%qN) fun eh ei ej ek=>B4 0 0 0 0 fun o3 o4 o5 o6=>(W4 eh ei ej ek∧Z4 o3 o4 o5 o6)∧(Bool.not
 (sqN (N4 eh ei ej ek))=true→B4 i4 i5 i6 i7 fun el em en eo=>B4 i8 i9 ja jb fun o7 o8 o9 pa=>B4 js jt ju jv fun ep eq er es=>B4 jw jx jy jz fun pb pc pd pe=>(((W4 el em en eo∧W4 ep eq er es)∧V4 el em en eo<qI∧V4 ep eq er
 es<qI)∧Z4 o7 o8 o9 pa∧Z4 pb pc pd pe)∧L4 ((N4 el em en eo+N4 ep eq er es)%qN) fun al am an ao=>B4 0 0 0 0 fun ap aq ar au=>B4 al am an ao fun u v w x=>B4 ap aq ar au fun pf pg ph pi=>B4 3 0 0 0 fun et eu ev ew=>B4 0 0
 0 0 fun pj pk pl pm=>(((W4 u v w x∧W4 et eu ev ew)∧V4 u v w x<qI∧V4 et eu ev ew<qI)∧Z4 pf pg ph pi∧Z4 pj pk pl pm)∧L4 ((N4 u v w x*(N4 u v w x*N4 u v w x%qN)%qN+N4 et eu ev ew)%qN) fun ex ey ez e0=>B4 0 0 0
 0 fun pn po pp pq=>(W4 ex ey ez e0∧Z4 pn po pp pq)∧(Bool.not (sqN (N4 ex ey ez e0))=true→B4 a b c d fun e1 e2 e3 e4=>B4 e f g h fun pr ps pt pu=>B4 a b c d fun e5 e6 e7 e8=>B4 e f g h fun pv pw px py=>(((W4 e1 e2 e3 e4∧
 W4 e5 e6 e7 e8)∧V4 e1 e2 e3 e4<qI∧V4 e5 e6 e7 e8<qI)∧Z4 pr ps pt pu∧Z4 pv pw px py)∧L4 (N4 e1 e2 e3 e4*N4 e5 e6 e7 e8%qN) fun e9 fa fb fc=>B4 0 0 0 0 fun pz p0 p1 p2=>B4 c8 c9 da db fun fd fe ff fg=>B4 dc dd de df
 fun p3 p4 p5 p6=>(((W4 e9 fa fb fc∧W4 fd fe ff fg)∧V4 e9 fa fb fc<qI∧V4 fd fe ff fg<qI)∧Z4 pz p0 p1 p2∧Z4 p3 p4 p5 p6)∧L4 (N4 e9 fa fb fc*N4 fd fe ff fg%qN) fun j0 j1 j2 j3=>B4 0 0 0 0 fun j4 j5 j6 j7=>B4 j0 j1 j2
 j3 fun fh fi fj fk=>B4 j4 j5 j6 j7 fun p7 p8 p9 qa=>B4 j0 j1 j2 j3 fun fl fm fn fo=>B4 j4 j5 j6 j7 fun qb qc qd qe=>(((W4 fh fi fj fk∧W4 fl fm fn fo)∧V4 fh fi fj fk<qI∧V4 fl fm fn fo<qI)∧Z4 p7 p8 p9 qa∧Z4 qb qc qd qe)
 ∧L4 (N4 fh fi fj fk*N4 fl fm fn fo%qN) fun fp fq fr fs=>B4 0 0 0 0 fun qf qg qh qi=>B4 iw ix iy iz fun ft fu fv fw=>B4 i0 i1 i2 i3 fun qj qk ql qm=>(((W4 fp fq fr fs∧W4 ft fu fv fw)∧V4 fp fq fr fs<qI∧V4 ft fu fv fw <
 qI)∧Z4 qf qg qh qi∧Z4 qj qk ql qm)∧L4 (N4 fp fq fr fs*N4 ft fu fv fw%qN) fun fx fy fz f0=>B4 0 0 0 0 fun qn qo qp qq=>B4 x8 x9 x10 x11 fun f1 f2 f3 f4=>B4 x12 x13 x14 x15 fun qr qs qt qu=>(((W4 fx fy fz f0∧W4 f1 f2 f3
 f4)∧V4 fx fy fz f0<qI∧V4 f1 f2 f3 f4<qI)∧Z4 qn qo qp qq∧Z4 qr qs qt qu)∧L4 ((N4 fx fy fz f0+N4 f1 f2 f3 f4)%qN) fun f5 f6 f7 f8=>B4 0 0 0 0 fun f9 ga gb gc=>B4 f5 f6 f7 f8 fun y z A B=>B4 f9 ga gb gc fun qv qw qx qy
 =>B4 3 0 0 0 fun gd ge gf gg=>B4 0 0 0 0 fun qz q0 q1 q2=>(((W4 y z A B∧W4 gd ge gf gg)∧V4 y z A B<qI∧V4 gd ge gf gg<qI)∧Z4 qv qw qx qy∧Z4 qz q0 q1 q2)∧L4 ((N4 y z A B*(N4 y z A B*N4 y z A B%qN)%qN+N4 gd ge
 gf gg)%qN) fun C D E F=>B4 0 0 0 0 fun q3 q4 q5 q6=>((W4 C D E F∧Z4 q3 q4 q5 q6)∧sqN (N4 C D E F)=true)∧L4 (rtN (N4 C D E F)) fun j8 j9 ka kb=>B4 0 0 0 0 fun q7 q8 q9 ra=>(W4 j8 j9 ka kb∧Z4 q7 q8 q9 ra)∧B4 ((N4 j8 j9
 ka kb%2:Nat):Int) u0 u1 u2 fun kc kd ke kf=>B4 u3 0 0 0 fun kg rb rc rd=>B1 0 fun re=>(W4 kd ke kf kg∧Z4 rb rc rd re)∧B1 ((N4 kd ke kf kg%2:Nat):Int) fun kh=>((kc !=kh)=true→L4 (rtN (N4 C D E F)) fun gh gi gj
 gk=>B4 0 0 0 0 fun rf rg rh ri=>(((W4 0 0 0 0∧W4 gh gi gj gk)∧0<qI∧V4 gh gi gj gk<qI)∧Z4 0 0 0 0∧Z4 rf rg rh ri)∧L4 ((0+(qN-N4 gh gi gj gk))%qN) fun rj rk rl rm=>B4 0 0 0 0 fun rn ro rp rq=>B4 f5 f6 f7 f8 fun
 rr rs rt ru=>B4 f9 ga gb gc fun rv rw rx ry=>B4 rj rk rl rm fun rz r0 r1 r2=>B4 rn ro rp rq fun r3 r4 r5 r6=>P (.agg [U rr,U rs,U rt,U ru,U rv,U rw,U rx,U ry,U rz,U r0,U r1,U r2,U r3,U r4,U r5,U r6]))∧((kc !=kh)=
 false→B4 f5 f6 f7 f8 fun r7 r8 r9 sa=>B4 f9 ga gb gc fun sb sc sd se=>L4 (rtN (N4 C D E F)) fun sf sg sh si=>B4 0 0 0 0 fun sj sk sl sm=>P (.agg [U r7,U r8,U r9,U sa,U sb,U sc,U sd,U se,U sf,U sg,U sh,U si,U sj,U sk,
 U sl,U sm])))∧(Bool.not (sqN (N4 ex ey ez e0))=false→B4 al am an ao fun G H I J=>B4 ap aq ar au fun sn so sp sq=>B4 3 0 0 0 fun gl gm gn go=>B4 0 0 0 0 fun sr ss st su=>(((W4 G H I J∧W4 gl gm gn go)∧V4 G H I J<qI∧V4
 gl gm gn go<qI)∧Z4 sn so sp sq∧Z4 sr ss st su)∧L4 ((N4 G H I J*(N4 G H I J*N4 G H I J%qN)%qN+N4 gl gm gn go)%qN) fun K L M N=>B4 0 0 0 0 fun sv sw sx sy=>((W4 K L M N∧Z4 sv sw sx sy)∧sqN (N4 K L M N)=true)∧
 L4 (rtN (N4 K L M N)) fun ki kj kk kl=>B4 0 0 0 0 fun sz s0 s1 s2=>(W4 ki kj kk kl∧Z4 sz s0 s1 s2)∧B4 ((N4 ki kj kk kl%2:Nat):Int) u0 u1 u2 fun km kn ko kp=>B4 u3 0 0 0 fun kq s3 s4 s5=>B1 0 fun s6=>(W4 kn ko kp kq∧Z4
 s3 s4 s5 s6)∧B1 ((N4 kn ko kp kq%2:Nat):Int) fun kr=>((km !=kr)=true→L4 (rtN (N4 K L M N)) fun gp gq gr gs=>B4 0 0 0 0 fun s7 s8 s9 ta=>(((W4 0 0 0 0∧W4 gp gq gr gs)∧0<qI∧V4 gp gq gr gs<qI)∧Z4 0 0 0 0∧Z4 s7
 s8 s9 ta)∧L4 ((0+(qN-N4 gp gq gr gs))%qN) fun tb tc td te=>B4 0 0 0 0 fun tf tg th ti=>B4 al am an ao fun tj tk tl tm=>B4 ap aq ar au fun tn to tp tq=>B4 tb tc td te fun tr ts tt tu=>B4 tf tg th ti fun tv tw tx ty=>P
 (.agg [U tj,U tk,U tl,U tm,U tn,U to,U tp,U tq,U tr,U ts,U tt,U tu,U tv,U tw,U tx,U ty]))∧((km !=kr)=false→B4 al am an ao fun tz t0 t1 t2=>B4 ap aq ar au fun t3 t4 t5 t6=>L4 (rtN (N4 K L M N)) fun t7 t8 t9 ua=>
 B4 0 0 0 0 fun ub uc ud ue=>P (.agg [U tz,U t0,U t1,U t2,U t3,U t4,U t5,U t6,U t7,U t8,U t9,U ua,U ub,U uc,U ud,U ue]))))∧(Bool.not (sqN (N4 eh ei ej ek))=false→B4 i j k l fun O Q R S=>B4 m n o p fun uf ug uh ui=>
 B4 3 0 0 0 fun gt gu gv gw=>B4 0 0 0 0 fun uj uk ul um=>(((W4 O Q R S∧W4 gt gu gv gw)∧V4 O Q R S<qI∧V4 gt gu gv gw<qI)∧Z4 uf ug uh ui∧Z4 uj uk ul um)∧L4 ((N4 O Q R S*(N4 O Q R S*N4 O Q R S%qN)%qN+N4 gt gu gv
 gw)%qN) fun gx gy gz g0=>B4 0 0 0 0 fun un uo up uq=>(W4 gx gy gz g0∧Z4 un uo up uq)∧(Bool.not (sqN (N4 gx gy gz g0))=true→B4 a b c d fun g1 g2 g3 g4=>B4 e f g h fun ur us ut uu=>B4 a b c d fun g5 g6 g7 g8=>B4 e f g h
 fun uv uw ux uy=>(((W4 g1 g2 g3 g4∧W4 g5 g6 g7 g8)∧V4 g1 g2 g3 g4<qI∧V4 g5 g6 g7 g8<qI)∧Z4 ur us ut uu∧Z4 uv uw ux uy)∧L4 (N4 g1 g2 g3 g4*N4 g5 g6 g7 g8%qN) fun g9 ha hb hc=>B4 0 0 0 0 fun uz u4 u5 u6=>B4 c8 c9 da
 db fun hd he hf hg=>B4 dc dd de df fun u7 u8 u9 va=>(((W4 g9 ha hb hc∧W4 hd he hf hg)∧V4 g9 ha hb hc<qI∧V4 hd he hf hg<qI)∧Z4 uz u4 u5 u6∧Z4 u7 u8 u9 va)∧L4 (N4 g9 ha hb hc*N4 hd he hf hg%qN) fun ks kt ku kv=>B4 0
 0 0 0 fun kw kx ky kz=>B4 ks kt ku kv fun hh hi hj hk=>B4 kw kx ky kz fun vb vc vd ve=>B4 ks kt ku kv fun hl hm hn ho=>B4 kw kx ky kz fun vf vg vh vi=>(((W4 hh hi hj hk∧W4 hl hm hn ho)∧V4 hh hi hj hk<qI∧V4 hl hm hn ho <
 qI)∧Z4 vb vc vd ve∧Z4 vf vg vh vi)∧L4 (N4 hh hi hj hk*N4 hl hm hn ho%qN) fun hp hq hr hs=>B4 0 0 0 0 fun vj vk vl vm=>B4 iw ix iy iz fun ht hu hv hw=>B4 i0 i1 i2 i3 fun vn vo vp vq=>(((W4 hp hq hr hs∧W4 ht hu hv hw)∧
 V4 hp hq hr hs<qI∧V4 ht hu hv hw<qI)∧Z4 vj vk vl vm∧Z4 vn vo vp vq)∧L4 (N4 hp hq hr hs*N4 ht hu hv hw%qN) fun hx hy hz h0=>B4 0 0 0 0 fun vr vs vt vu=>B4 x8 x9 x10 x11 fun h1 h2 h3 h4=>B4 x12 x13 x14 x15 fun vv vw vx
 vy=>(((W4 hx hy hz h0∧W4 h1 h2 h3 h4)∧V4 hx hy hz h0<qI∧V4 h1 h2 h3 h4<qI)∧Z4 vr vs vt vu∧Z4 vv vw vx vy)∧L4 ((N4 hx hy hz h0+N4 h1 h2 h3 h4)%qN) fun h5 h6 h7 h8=>B4 0 0 0 0 fun h9 ia ib ic=>B4 h5 h6 h7 h8 fun T V
 X Y=>B4 h9 ia ib ic fun vz v0 v1 v2=>B4 3 0 0 0 fun id ie ig ih=>B4 0 0 0 0 fun v3 v4 v5 v6=>(((W4 T V X Y∧W4 id ie ig ih)∧V4 T V X Y<qI∧V4 id ie ig ih<qI)∧Z4 vz v0 v1 v2∧Z4 v3 v4 v5 v6)∧L4 ((N4 T V X Y*(N4 T V X
 Y*N4 T V X Y%qN)%qN+N4 id ie ig ih)%qN) fun Z aa ab ac=>B4 0 0 0 0 fun v7 v8 v9 wa=>((W4 Z aa ab ac∧Z4 v7 v8 v9 wa)∧sqN (N4 Z aa ab ac)=true)∧L4 (rtN (N4 Z aa ab ac)) fun k0 k1 k2 k3=>B4 0 0 0 0 fun wb wc wd we=>
 (W4 k0 k1 k2 k3∧Z4 wb wc wd we)∧B4 ((N4 k0 k1 k2 k3%2:Nat):Int) u0 u1 u2 fun k4 k5 k6 k7=>B4 u3 0 0 0 fun k8 wf wg wh=>B1 0 fun wi=>(W4 k5 k6 k7 k8∧Z4 wf wg wh wi)∧B1 ((N4 k5 k6 k7 k8%2:Nat):Int) fun k9=>((k4 !=
 k9)=true→L4 (rtN (N4 Z aa ab ac)) fun ii ij ik il=>B4 0 0 0 0 fun wj wk wl wm=>(((W4 0 0 0 0∧W4 ii ij ik il)∧0<qI∧V4 ii ij ik il<qI)∧Z4 0 0 0 0∧Z4 wj wk wl wm)∧L4 ((0+(qN-N4 ii ij ik il))%qN) fun wn wo wp wq
 =>B4 0 0 0 0 fun wr ws wt wu=>B4 h5 h6 h7 h8 fun wv ww wx wy=>B4 h9 ia ib ic fun wz w0 w1 w2=>B4 wn wo wp wq fun w3 w4 w5 w6=>B4 wr ws wt wu fun w7 w8 w9 xa=>P (.agg [U wv,U ww,U wx,U wy,U wz,U w0,U w1,U w2,U w3,U w4,U
 w5,U w6,U w7,U w8,U w9,U xa]))∧((k4 !=k9)=false→B4 h5 h6 h7 h8 fun xb xc xd xe=>B4 h9 ia ib ic fun xf xg xh xi=>L4 (rtN (N4 Z aa ab ac)) fun xj xk xl xm=>B4 0 0 0 0 fun xn xo xp xq=>P (.agg [U xb,U xc,U xd,U xe,U
 xf,U xg,U xh,U xi,U xj,U xk,U xl,U xm,U xn,U xo,U xp,U xq])))∧(Bool.not (sqN (N4 gx gy gz g0))=false→B4 i j k l fun ad ae af ag=>B4 m n o p fun xr xs xt xu=>B4 3 0 0 0 fun im io ip iq=>B4 0 0 0 0 fun xv xw xx xy=>
 (((W4 ad ae af ag∧W4 im io ip iq)∧V4 ad ae af ag<qI∧V4 im io ip iq<qI)∧Z4 xr xs xt xu∧Z4 xv xw xx xy)∧L4 ((N4 ad ae af ag*(N4 ad ae af ag*N4 ad ae af ag%qN)%qN+N4 im io ip iq)%qN) fun ah ai aj ak=>B4 0 0 0 0
 fun xz x0 x1 x2=>((W4 ah ai aj ak∧Z4 xz x0 x1 x2)∧sqN (N4 ah ai aj ak)=true)∧L4 (rtN (N4 ah ai aj ak)) fun la lb lc ld=>B4 0 0 0 0 fun x3 x4 x5 x6=>(W4 la lb lc ld∧Z4 x3 x4 x5 x6)∧B4 ((N4 la lb lc ld%2:Nat):Int) u0
 u1 u2 fun le lf lg lh=>B4 u3 0 0 0 fun li x7 ya yb=>B1 0 fun yc=>(W4 lf lg lh li∧Z4 x7 ya yb yc)∧B1 ((N4 lf lg lh li%2:Nat):Int) fun lj=>((le !=lj)=true→L4 (rtN (N4 ah ai aj ak)) fun ir it iu iv=>B4 0 0 0 0 fun yd
 ye yf yg=>(((W4 0 0 0 0∧W4 ir it iu iv)∧0<qI∧V4 ir it iu iv<qI)∧Z4 0 0 0 0∧Z4 yd ye yf yg)∧L4 ((0+(qN-N4 ir it iu iv))%qN) fun yh yi yj yk=>B4 0 0 0 0 fun yl ym yn yo=>B4 i j k l fun yp yq yr ys=>B4 m n o p
 fun yt yu yv yw=>B4 yh yi yj yk fun yx yy yz za=>B4 yl ym yn yo fun zb zc zd ze=>P (.agg [U yp,U yq,U yr,U ys,U yt,U yu,U yv,U yw,U yx,U yy,U yz,U za,U zb,U zc,U zd,U ze]))∧((le !=lj)=false→B4 i j k l fun zf zg
 zh zi=>B4 m n o p fun zj zk zl zm=>L4 (rtN (N4 ah ai aj ak)) fun zn zo zp zq=>B4 0 0 0 0 fun zr zs zt zu=>P (.agg [U zf,U zg,U zh,U zi,U zj,U zk,U zl,U zm,U zn,U zo,U zp,U zq,U zr,U zs,U zt,U zu]))))
theorem vc_mp (u0 u1 u2 u3:Int) (P:SV→Prop):(execF cxMp u9 Tryz.f13 64 [agF u0 u1 u2 u3,agF 3 0 0 0,.bool (.lit true)] (memL []) fun v _=>P v)=(B4 3 0 0 0 fun x0 x1 x2 x3=>B4 0 0 0 0 fun x4 x5 x6 x7=>((x0=3∧x1=0∧x2
 =0∧x3=0)∧Z4 x4 x5 x6 x7)∧B4 1 0 0 0 fun e f g h=>B4 0 0 0 0 fun i j k l=>B4 e f g h fun m n o p=>B4 i j k l fun a9 ba bb bc=>B4 3 0 0 0 fun q r s t=>B4 0 0 0 0 fun bd be bf bg=>(((W4 m n o p∧W4 q r s t)∧V4 m n o p
 < qI∧V4 q r s t<qI)∧Z4 a9 ba bb bc∧Z4 bd be bf bg)∧L4 ((N4 m n o p*(N4 m n o p*N4 m n o p%qN)%qN+N4 q r s t)%qN) fun u w x y=>B4 0 0 0 0 fun z A B C=>((0:Int)≤3∧(3:Int)<18446744073709551616)∧B4 3 0 0 0
 fun D E F G=>B4 0 0 0 0 fun bh bi bj bk=>B4 e f g h fun H I J K=>B4 i j k l fun bl bm bn bo=>B4 e f g h fun L M N O=>B4 i j k l fun bp bq br bs=>(((W4 H I J K∧W4 L M N O)∧V4 H I J K<qI∧V4 L M N O<qI)∧Z4 bl bm bn bo
 ∧Z4 bp bq br bs)∧L4 (N4 H I J K*N4 L M N O%qN) fun Q R S T=>B4 0 0 0 0 fun bt bu bv bw=>(((W4 D E F G∧W4 Q R S T)∧V4 D E F G<qI∧V4 Q R S T<qI)∧Z4 bh bi bj bk∧Z4 bt bu bv bw)∧L4 (N4 D E F G*N4 Q R S T%qN) fun
 V X Y Z=>B4 0 0 0 0 fun aa ab ac ad=>B4 u w x y fun ae af ag ah=>B4 z A B C fun bx bz b0 b1=>B4 V X Y Z fun ai aj ak al=>B4 aa ab ac ad fun b2 b3 b4 b5=>(((W4 ae af ag ah∧W4 ai aj ak al)∧V4 ae af ag ah<qI∧V4 ai aj ak al
 < qI)∧Z4 bx bz b0 b1∧Z4 b2 b3 b4 b5)∧L4 (N4 ae af ag ah*N4 ai aj ak al%qN) fun am an ao ap=>B4 0 0 0 0 fun b6 b7 b8 b9=>(((W4 0 0 0 0∧W4 am an ao ap)∧0<qI∧V4 am an ao ap<qI)∧Z4 0 0 0 0∧Z4 b6 b7 b8 b9)∧L4 ((0 +
 (qN-N4 am an ao ap))%qN) fun a b c d=>B4 0 0 0 0 fun ca cb cc cd=>((W4 a b c d∧Z4 ca cb cc cd)∧sqN (N4 a b c d)=true)∧L4 (rtN (N4 a b c d)) fun aw ax ay az=>B4 0 0 0 0 fun ce cf cg ch=>(W4 aw ax ay az∧Z4 ce cf cg ch)
 ∧B1 ((N4 aw ax ay az%2:Nat):Int) fun a0=>((a0==1)=true→L4 (rtN (N4 a b c d)) fun aq ar au av=>B4 0 0 0 0 fun ci cj ck cl=>(((W4 0 0 0 0∧W4 aq ar au av)∧0<qI∧V4 aq ar au av<qI)∧Z4 0 0 0 0∧Z4 ci cj ck cl)∧
 L4 ((0+(qN-N4 aq ar au av))%qN) fun cm cn co cp=>B4 0 0 0 0 fun cq cr cs ct=>MpR P u w x y z A B C V X Y Z aa ab ac ad e f g h i j k l u0 u1 u2 u3 cm cn co cp cq cr cs ct)∧((a0==1)=false→MpR P u w x y z A B C V X Y Z aa
 ab ac ad e f g h i j k l u0 u1 u2 u3 (lm (rtN (N4 a b c d)) 0) (lm (rtN (N4 a b c d)) 1) (lm (rtN (N4 a b c d)) 2) (lm (rtN (N4 a b c d)) 3) 0 0 0 0)):=by kernel_rfl
def mxN (A:Nat):Nat:=if sqN (gN (x1N A))=true then x1N A else if sqN (gN (x2N A))=true then x2N A else x3N A
def myN (A:Nat):Nat:=if rtN (gN (mxN A))%2=A%2 then rtN (gN (mxN A))else (0+(qN-rtN (gN (mxN A))))%qN
def agM (x y:Nat):SV:= .agg [U (lm x 0),U (lm x 1),U (lm x 2),U (lm x 3),U 0,U 0,U 0,U 0,U (lm y 0),U (lm y 1),U (lm y 2),U (lm y 3),U 0,U 0,U 0,U 0]
theorem mp_walk {A:Nat} {a0 a1 a2 a3:Int} {P:SV→Prop} (ha:Ws a0 a1 a2 a3 A) (la:A<qN) (hK:P (agM (mxN A) (myN A))):
  execF cxMp u9 Tryz.f13 64 [agF a0 a1 a2 a3,agF 3 0 0 0,.bool (.lit true)] (memL []) fun v _=>P v:=by
 rw[vc_mp]
 have wa:W4 a0 a1 a2 a3=True:=eq_true ha.wd
 have na:N4 a0 a1 a2 a3=A:=Vx ha
 have va:(V4 a0 a1 a2 a3<qI)=True:=eq_true (by rw[ha.val,qI_eq];omega)
 simp only[MpR,wa,na,va,↓L4_eq,↓B4_eq,↓B1_eq,Z4_0,N4q,N4i,N4r,N4_1,N4_2,N4_3,N4_4,W4l,W4_0,W4_1,W4_2,W4_3,W4_4,Vq_lt,Vi_lt,Vr_lt,V1_lt,V2_lt,V3_lt,V4_lt',z_lt,true_and,and_self]
 have r1:((0:Int)≤1∧(1:Int)<18446744073709551616)=True:=by decide
 have r2:((0:Int)≤2∧(2:Int)<18446744073709551616)=True:=by decide
 have r3:((0:Int)≤3∧(3:Int)<18446744073709551616)=True:=by decide
 have r4:((0:Int)≤4∧(4:Int)<18446744073709551616)=True:=by decide
 have e1:(1*(1*1%qN)%qN+3)%qN=4:=by decide
 have e2:3*(1*1%qN)%qN=3:=by decide
 have e3:(0+(qN-4*3%qN))%qN=21888242871839275222246405745257275088696311157297823662689037894645226208571:=by decide
 have e4:rtN 21888242871839275222246405745257275088696311157297823662689037894645226208571=c3N:=by decide +kernel
 have e5:sqN 21888242871839275222246405745257275088696311157297823662689037894645226208571=true:=by decide +kernel
 have e6:(((((c3N%2:Nat)):Int)==1)=true)=False:=by decide +kernel
 have e7:(((((c3N%2:Nat)):Int)==1)=false)=True:=by decide +kernel
 have e8:(0+(qN-4*4%qN*inv0 3%qN))%qN=c4N:=by decide +kernel
 have e9:(0+(qN-1))%qN*inv0 2%qN=c2N:=by decide +kernel
 have t1:A*A%qN*4%qN=tN A:=rfl
 have t2:(1+tN A)%qN=moN A:=rfl
 have t3:(1+(qN-tN A))%qN=leN A:=rfl
 have t4:inv0 (leN A*moN A%qN)=ivN A:=rfl
 have t5:A*leN A%qN*ivN A%qN*c3N%qN=stN A:=rfl
 have t6:(c2N+(qN-stN A))%qN=x1N A:=rfl
 have t7:(c2N+stN A)%qN=x2N A:=rfl
 have t8:moN A*moN A%qN*ivN A%qN=vvN A:=rfl
 have t9:(vvN A*vvN A%qN*c4N%qN+1)%qN=x3N A:=rfl
 have g1:∀x,(x*(x*x%qN)%qN+3)%qN=gN x:=fun _=>rfl
 simp only[r1,r2,r3,r4,e1,e2,e3,e4,e5,e6,e7,e8,e9,t1,t2,t3,t4,t5,t6,t7,t8,t9,g1,true_and,false_imp_iff,true_implies]
 have fin:∀x,mxN A=x→((((rtN (gN x)%2:Nat):Int) !=((A%2:Nat):Int))=true→P (agM x ((0+(qN-rtN (gN x)))%qN)))∧((((rtN (gN x)%2:Nat):Int) !=((A%2:Nat):Int))=false→P (agM x (rtN (gN x)))):=by
  intro x hx
  unfold myN at hK
  rw[hx]at hK
  constructor
  ·intro h
   have h:¬rtN (gN x)%2=A%2:=fun e=>by rw[e]at h;simp at h
   rw[if_neg h]at hK
   exact hK
  ·intro h
   have h:rtN (gN x)%2=A%2:=by simp at h;omega
   rw[if_pos h]at hK
   exact hK
 have sv:=svdw A
 cases h1:sqN (gN (x1N A))<;>cases h2:sqN (gN (x2N A))<;>simp only[Bool.not_true,Bool.not_false,true_implies,false_imp_iff,and_true,true_and,reduceCtorEq]
 ·have h3:sqN (gN (x3N A))=true:=by
   rw[h1,h2]at sv
   simpa using sv
  have fx:=fin (x3N A) (by unfold mxN;rw[if_neg (by rw[h1];decide),if_neg (by rw[h2];decide)])
  exact ⟨h3,fun h=>fx.1 h,fun h=>fx.2 h⟩
 ·have fx:=fin (x2N A) (by unfold mxN;rw[if_neg (by rw[h1];decide),if_pos h2])
  exact ⟨fun h=>fx.1 h,fun h=>fx.2 h⟩
 ·have fx:=fin (x1N A) (by unfold mxN;rw[if_pos h1])
  exact ⟨fun h=>fx.1 h,fun h=>fx.2 h⟩
 ·have fx:=fin (x1N A) (by unfold mxN;rw[if_pos h1])
  exact ⟨fun h=>fx.1 h,fun h=>fx.2 h⟩
def rMp:R0:=fun args l=>
 match args,l with
 | [.agg [.int .u64 (.sym a0),.int .u64 (.sym a1),.int .u64 (.sym a2),.int .u64 (.sym a3),.int .u64 (.sym a4),.int .u64 (.sym a5),.int .u64 (.sym a6),.int .u64 (.sym a7)],.agg [.int .u64 (.sym b0),.int .u64 (.sym b1),.int .u64 (.sym b2),.int .u64 (.sym b3),.int .u64 (.sym b4),.int .u64 (.sym b5),.int .u64 (.sym b6),.int .u64 (.sym b7)],.bool (.lit true)],[]=>some (some ((((Wd a0∧Wd a1∧Wd a2∧Wd a3)∧V4 a0 a1 a2 a3<21888242871839275222246405745257275088696311157297823662689037894645226208583)∧(a4=0∧a5=0∧a6=0∧a7=0))∧(b0=3∧b1=0∧b2=0∧b3=0)∧(b4=0∧b5=0∧b6=0∧b7=0)),agM (mxN (V4 a0 a1 a2 a3).toNat) (myN (V4 a0 a1 a2 a3).toNat))
 | _,_=>none
theorem Mp_ok (args:List SV) (l:List (Nat×Reg)) (p:Ob) (v:SV) (h:rMp args l=some (p,v)) (hp:p.ok):∃U,execF cxMp U Tryz.f13 64 args (memL l) fun v' _=>v'=v:=by
 unfold rMp at h
 split at h
 ·rename_i a0 a1 a2 a3 a4 a5 a6 a7 b0 b1 b2 b3 b4 b5 b6 b7
  simp only[Option.some.injEq,Prod.mk.injEq]at h
  obtain ⟨rfl,rfl⟩:=h
  have hp:(((Wd a0∧Wd a1∧Wd a2∧Wd a3)∧V4 a0 a1 a2 a3<21888242871839275222246405745257275088696311157297823662689037894645226208583)∧(a4=0∧a5=0∧a6=0∧a7=0))∧(b0=3∧b1=0∧b2=0∧b3=0)∧(b4=0∧b5=0∧b6=0∧b7=0):=hp
  obtain ⟨⟨⟨wa,la⟩,z0,z1,z2,z3⟩,⟨y0,y1,y2,y3⟩,z4,z5,z6,z7⟩:=hp
  subst z0 z1 z2 z3 z4 z5 z6 z7 y0 y1 y2 y3
  have A:=ws_of wa.1 wa.2.1 wa.2.2.1 wa.2.2.2
  have ea:=Ws.val A
  exact ⟨_,mp_walk A (by unfold qN;omega) rfl⟩
 ·cases h
def cMp:Rd Tryz.prog:=mkR mixed 13 Tryz.func13 (by decide) (by kernel_rfl) [] [.num,.num,.val] rMp Mp_ok
def cxMapa:Cx Tryz.prog:= { rds:= [cOne,cMp],efs:= [],eqs:= [] }
theorem vc_mapa (u0 u1 u2 u3:Int) (K:SV→Mem→Prop):(execF cxMapa u9 Tryz.f6 64 [ag4 u0 u1 u2 u3] (memL []) K)=(B4 u0 u1 u2 u3 fun a b c d=>((0:Int)≤3∧(3:Int)<18446744073709551616)∧B4 3 0 0 0 fun u v w x=>B4 0 0 0
 0 fun y z A B=>(((W4 a b c d∧V4 a b c d<qI)∧Z4 0 0 0 0)∧(u=3∧v=0∧w=0∧x=0)∧Z4 y z A B)∧L4 (mxN (N4 a b c d)) fun e f g h=>B4 0 0 0 0 fun C D E F=>L4 (myN (N4 a b c d)) fun i j k l=>B4 0 0 0 0 fun G H I J=>
 B4 e f g h fun m n o p=>B4 i j k l fun q r s t=>K (.agg [U m,U n,U o,U p,U q,U r,U s,U t]) (memL [(513,⟨false,.cells [U u0,U u1,U u2,U u3]⟩),(521,⟨false,.cells [U m,U n,U o,U p,U q,U r,U s,U t]⟩),(561,⟨false,
 .cells [U e,U f,U g,U h,U C,U D,U E,U F,U i,U j,U k,U l,U G,U H,U I,U J]⟩)])):=by kernel_rfl
theorem mxN_lt (A:Nat):mxN A<qN:=by
 unfold mxN
 split
 ·exact Nat.mod_lt _ (by decide)
 ·split
  ·exact Nat.mod_lt _ (by decide)
  ·exact Nat.mod_lt _ (by decide)
theorem myN_lt (A:Nat):myN A<qN:=by
 unfold myN
 split
 ·exact rtN_lt _
 ·exact Nat.mod_lt _ (by decide)
theorem m1_walk {A:Nat} {a0 a1 a2 a3:Int} {K:SV→Mem→Prop} (ha:Ws a0 a1 a2 a3 A) (la:A<qN) (hK:∀m,K (.agg [U (lm (mxN A) 0),U (lm (mxN A) 1),U (lm (mxN A) 2),U (lm (mxN A) 3),U (lm (myN A) 0),U (lm (myN A) 1),U (lm (myN A) 2),U (lm (myN A) 3)]) m):
  execF cxMapa u9 Tryz.f6 64 [ag4 a0 a1 a2 a3] (memL []) K:=by
 rw[vc_mapa]
 have wa:W4 a0 a1 a2 a3=True:=eq_true ha.wd
 have na:N4 a0 a1 a2 a3=A:=Vx ha
 have va:(V4 a0 a1 a2 a3<qI)=True:=eq_true (by rw[ha.val,qI_eq];omega)
 have r3:((0:Int)≤3∧(3:Int)<18446744073709551616)=True:=by decide
 simp only[wa,na,va,r3,↓L4_eq,↓B4_eq,Z4_0,true_and,and_self]
 exact hK _
def rMapa:R0:=fun args l=>
 match args,l with
 | [.agg [.int .u64 (.sym a0),.int .u64 (.sym a1),.int .u64 (.sym a2),.int .u64 (.sym a3)]],[]=>some (some ((Wd a0∧Wd a1∧Wd a2∧Wd a3)∧V4 a0 a1 a2 a3<21888242871839275222246405745257275088696311157297823662689037894645226208583),.agg [U (lm (mxN (V4 a0 a1 a2 a3).toNat) 0),U (lm (mxN (V4 a0 a1 a2 a3).toNat) 1),U (lm (mxN (V4 a0 a1 a2 a3).toNat) 2),U (lm (mxN (V4 a0 a1 a2 a3).toNat) 3),U (lm (myN (V4 a0 a1 a2 a3).toNat) 0),U (lm (myN (V4 a0 a1 a2 a3).toNat) 1),U (lm (myN (V4 a0 a1 a2 a3).toNat) 2),U (lm (myN (V4 a0 a1 a2 a3).toNat) 3)])
 | _,_=>none
theorem Mapa_ok (args:List SV) (l:List (Nat×Reg)) (p:Ob) (v:SV) (h:rMapa args l=some (p,v)) (hp:p.ok):∃U,execF cxMapa U Tryz.f6 64 args (memL l) fun v' _=>v'=v:=by
 unfold rMapa at h
 split at h
 ·rename_i a0 a1 a2 a3
  simp only[Option.some.injEq,Prod.mk.injEq]at h
  obtain ⟨rfl,rfl⟩:=h
  have hp:(Wd a0∧Wd a1∧Wd a2∧Wd a3)∧V4 a0 a1 a2 a3<21888242871839275222246405745257275088696311157297823662689037894645226208583:=hp
  have A:=ws_of hp.1.1 hp.1.2.1 hp.1.2.2.1 hp.1.2.2.2
  have ea:=Ws.val A
  have la:=hp.2
  exact ⟨_,m1_walk A (by unfold qN;omega) fun _=>rfl⟩
 ·cases h
def cMapa:Rd Tryz.prog:=mkR mixed 6 Tryz.func6 (by decide) (by kernel_rfl) [] [.num] rMapa Mapa_ok
def cxEs:Cx Tryz.prog:= { rds:= [],efs:= [kSqr,kMulA],eqs:= [] }
def uEs:Nat→Lp:=fun _=> .un 40
def sqs:Nat→Int→Int→Int→Int→(Int→Int→Int→Int→Prop)→Prop
 | 0,a,b,c,d,K=>K a b c d
 | n+1,a,b,c,d,K=>mulC a b c d a b c d fun a b c d=>sqs n a b c d K
def EsC (x0 x1 x2 x3:Int) (K:SV→Mem→Prop):Prop:=
 mulC x0 x1 x2 x3 x0 x1 x2 x3 fun a b c d=>mulC x0 x1 x2 x3 a b c d fun a1 b1 c1 d1=>mulC a b c d a1 b1 c1 d1 fun i j k l=>mulC x0 x1 x2 x3 i j k l fun e f g h=>mulC x0 x1 x2 x3 e f g h fun a4 b4 c4 d4=>mulC i j k l e f g h fun a5
 b5 c5 d5=>mulC x0 x1 x2 x3 a5 b5 c5 d5 fun m n o p=>mulC x0 x1 x2 x3 m n o p fun q r s t=>mulC a b c d q r s t fun Q R S T=>mulC a b c d Q R S T fun V X Y Z=>mulC a b c d V X Y Z fun ee ef eg eh=>mulC e f g h V X Y Z fun u v w
 x=>mulC a b c d u v w x fun y z A B=>mulC a b c d y z A B fun aq ar au av=>mulC e f g h y z A B fun ei ej ek el=>mulC m n o p u v w x fun em en eo ep=>mulC m n o p aq ar au av fun aa ab ac ad=>mulC a b c d aa ab ac ad fun C D E
 F=>mulC a b c d C D E F fun aw ax ay az=>mulC a b c d aw ax ay az fun G H I J=>mulC m n o p G H I J fun L M N O=>mulC aa ab ac ad L M N O fun eq er es et=>sqs 5 eq er es et fun eu ev ew ex=>mulC y z A B eu ev ew ex fun ey ez e0
 e1=>sqs 9 ey ez e0 e1 fun ba bb bc bd=>mulC aa ab ac ad ba bb bc bd fun e2 e3 e4 e5=>sqs 8 e2 e3 e4 e5 fun e6 e7 e8 e9=>mulC L M N O e6 e7 e8 e9 fun fa fb fc fd=>sqs 4 fa fb fc fd fun fe ff fg fh=>mulC a4 b4 c4 d4 fe ff fg fh
 fun fi fj fk fl=>sqs 9 fi fj fk fl fun be bf bg bh=>mulC ee ef eg eh be bf bg bh fun fm fn fo fp=>sqs 7 fm fn fo fp fun fq fr fs ft=>mulC q r s t fq fr fs ft fun fu fv fw fx=>sqs 13 fu fv fw fx fun fy fz f0 f1=>mulC C D E F fy
 fz f0 f1 fun f2 f3 f4 f5=>sqs 5 f2 f3 f4 f5 fun f6 f7 f8 f9=>mulC u v w x f6 f7 f8 f9 fun ga gb gc gd=>sqs 7 ga gb gc gd fun ge gf gg gh=>mulC i j k l ge gf gg gh fun gi gj gk gl=>sqs 10 gi gj gk gl fun bi bj bk bl=>mulC V X Y
 Z bi bj bk bl fun gm gn go gp=>sqs 6 gm gn go gp fun bm bn bo bp=>mulC aq ar au av bm bn bo bp fun gq gr gs gt=>sqs 5 gq gr gs gt fun gu gv gw gx=>mulC q r s t gu gv gw gx fun gy gz g0 g1=>sqs 8 gy gz g0 g1 fun bq br bs bt=>
 mulC a1 b1 c1 d1 bq br bs bt fun g2 g3 g4 g5=>sqs 12 g2 g3 g4 g5 fun bu bv bw bx=>mulC aw ax ay az bu bv bw bx fun g6 g7 g8 g9=>sqs 9 g6 g7 g8 g9 fun bz ca cb cc=>mulC u v w x bz ca cb cc fun ha hb hc hd=>sqs 6 ha hb hc hd fun cd
 ce cf cg=>mulC y z A B cd ce cf cg fun he hf hg hh=>sqs 5 he hf hg hh fun hi hj hk hl=>mulC Q R S T hi hj hk hl fun hm hn ho hp=>sqs 12 hm hn ho hp fun hq hr hs ht=>mulC G H I J hq hr hs ht fun hu hv hw hx=>sqs 7 hu hv hw hx
 fun hy hz h0 h1=>mulC C D E F hy hz h0 h1 fun h2 h3 h4 h5=>sqs 9 h2 h3 h4 h5 fun h6 h7 h8 h9=>mulC G H I J h6 h7 h8 h9 fun ia ib ic id=>sqs 7 ia ib ic id fun ch ci cj ck=>mulC a4 b4 c4 d4 ch ci cj ck fun ie ig ih ii=>sqs 9 ie
 ig ih ii fun ij ik il im=>mulC L M N O ij ik il im fun io ip iq ir=>sqs 4 io ip iq ir fun cl cm cn co=>mulC i j k l cl cm cn co fun it iu iv iw=>sqs 7 it iu iv iw fun cp cq cr cs=>mulC q r s t cp cq cr cs fun ix iy iz i0=>sqs 6
 ix iy iz i0 fun ct cu cv cw=>mulC Q R S T ct cu cv cw fun i1 i2 i3 i4=>sqs 5 i1 i2 i3 i4 fun i5 i6 i7 i8=>mulC x0 x1 x2 x3 i5 i6 i7 i8 fun i9 ja jb jc=>sqs 11 i9 ja jb jc fun cx cy cz da=>mulC em en eo ep cx cy cz da fun jd je jf
 jg=>sqs 11 jd je jf jg fun db dc dd de=>mulC G H I J db dc dd de fun jh ji jj jk=>sqs 4 jh ji jj jk fun df dg dh di=>mulC a5 b5 c5 d5 df dg dh di fun jl jm jn jo=>sqs 9 jl jm jn jo fun dj dk dl dm=>mulC ei ej ek el dj dk dl dm
 fun jp jq jr js=>sqs 8 jp jq jr js fun dn dp dq dr=>mulC L M N O dn dp dq dr fun ds dt du dv=>mulC e f g h ds dt du dv fun jt ju jv jw=>sqs 7 jt ju jv jw fun dw dx dy dz=>mulC C D E F dw dx dy dz fun ea eb ec ed=>mulC ea eb ec
 ed ea eb ec ed fun jx jy jz j0=>K (.ptr 1 (.lit 0)) (memL [(1,⟨false,w4 jx jy jz j0⟩),(513,⟨false,w4 x0 x1 x2 x3⟩),(529,⟨false,w4 dw dx dy dz⟩),(537,⟨false,w4 ds dt du dv⟩),(545,⟨false,w4 dn dp dq dr⟩),(553,⟨false,w4 dj
 dk dl dm⟩),(561,⟨false,w4 df dg dh di⟩),(569,⟨false,w4 db dc dd de⟩),(577,⟨false,w4 cx cy cz da⟩),(585,⟨false,w4 ct cu cv cw⟩),(593,⟨false,w4 cp cq cr cs⟩),(601,⟨false,w4 cl cm cn co⟩),(609,⟨false,w4 ch ci cj ck⟩),
 (617,⟨false,w4 cd ce cf cg⟩),(625,⟨false,w4 bz ca cb cc⟩),(633,⟨false,w4 bu bv bw bx⟩),(641,⟨false,w4 bq br bs bt⟩),(649,⟨false,w4 bm bn bo bp⟩),(657,⟨false,w4 bi bj bk bl⟩),(665,⟨false,w4 be bf bg bh⟩),(673,⟨false,
 w4 ba bb bc bd⟩)])
theorem vc_es (z0 z1 z2 z3 x0 x1 x2 x3:Int) (K:SV→Mem→Prop):execF cxEs uEs Tryz.f95 64 [.ptr 1 (.lit 0),ag4 x0 x1 x2 x3] (memL [(1,⟨false,w4 z0 z1 z2 z3⟩)]) K=EsC x0 x1 x2 x3 K:=by kernel_rfl
def EP (X e:Nat) (a b c d:Int):Prop:=El a b c d (mont (X ^ e))
theorem mulC_e {X e f g:Nat} {a0 a1 a2 a3 b0 b1 b2 b3:Int} {K:Int→Int→Int→Int→Prop} (ha:EP X e a0 a1 a2 a3) (hb:EP X f b0 b1 b2 b3) (hg:e+f=g)
  (h:∀y0 y1 y2 y3,EP X g y0 y1 y2 y3→K y0 y1 y2 y3):mulC a0 a1 a2 a3 b0 b1 b2 b3 K:=
 ⟨_,_,⟨El.ws ha,hb⟩,fun r hr y0 y1 y2 y3 hy=>h y0 y1 y2 y3 (by rw[mont_mul,←Nat.pow_add,hg]at hr;rw[hr]at hy;exact hy)⟩
theorem sqs_e {X:Nat}:∀ {n e g:Nat} {a0 a1 a2 a3:Int} {K:Int→Int→Int→Int→Prop},EP X e a0 a1 a2 a3→e*2 ^ n=g→(∀y0 y1 y2 y3,EP X g y0 y1 y2 y3→K y0 y1 y2 y3)→sqs n a0 a1 a2 a3 K:=by
 intro n
 induction n with
 | zero=>
  intro e g a0 a1 a2 a3 K ha hg h
  have hg:e=g:=by omega
  rw[hg]at ha
  exact h _ _ _ _ ha
 | succ n ih=>
  intro e g a0 a1 a2 a3 K ha hg h
  have e2:(e+e)*2 ^ n=g:=by rw[←hg,Nat.pow_succ,←Nat.two_mul,Nat.mul_comm 2 e,Nat.mul_assoc,Nat.mul_comm 2]
  exact mulC_e ha ha rfl fun y0 y1 y2 y3 hy=>ih hy e2 h
theorem es_walk {X:Nat} {x0 x1 x2 x3:Int} {K:SV→Mem→Prop} (hup:KUp K) (hx:EP X 1 x0 x1 x2 x3) (hK:∀y0 y1 y2 y3,EP X e4N y0 y1 y2 y3→K (.ptr 1 (.lit 0)) (memL [(1,⟨false,w4 y0 y1 y2 y3⟩)])):
  EsC x0 x1 x2 x3 K:=by
 unfold EsC
 refine mulC_e (g:=2) hx hx rfl ?_
 intro a0 b0 c0 d0 h0
 refine mulC_e (g:=3) hx h0 rfl ?_
 intro a1 b1 c1 d1 h1
 refine mulC_e (g:=5) h0 h1 rfl ?_
 intro a2 b2 c2 d2 h2
 refine mulC_e (g:=6) hx h2 rfl ?_
 intro a3 b3 c3 d3 h3
 refine mulC_e (g:=7) hx h3 rfl ?_
 intro a4 b4 c4 d4 h4
 refine mulC_e (g:=11) h2 h3 rfl ?_
 intro a5 b5 c5 d5 h5
 refine mulC_e (g:=12) hx h5 rfl ?_
 intro a6 b6 c6 d6 h6
 refine mulC_e (g:=13) hx h6 rfl ?_
 intro a7 b7 c7 d7 h7
 refine mulC_e (g:=15) h0 h7 rfl ?_
 intro a8 b8 c8 d8 h8
 refine mulC_e (g:=17) h0 h8 rfl ?_
 intro a9 b9 c9 d9 h9
 refine mulC_e (g:=19) h0 h9 rfl ?_
 intro a10 b10 c10 d10 h10
 refine mulC_e (g:=23) h3 h9 rfl ?_
 intro a11 b11 c11 d11 h11
 refine mulC_e (g:=25) h0 h11 rfl ?_
 intro a12 b12 c12 d12 h12
 refine mulC_e (g:=27) h0 h12 rfl ?_
 intro a13 b13 c13 d13 h13
 refine mulC_e (g:=31) h3 h12 rfl ?_
 intro a14 b14 c14 d14 h14
 refine mulC_e (g:=35) h6 h11 rfl ?_
 intro a15 b15 c15 d15 h15
 refine mulC_e (g:=39) h6 h13 rfl ?_
 intro a16 b16 c16 d16 h16
 refine mulC_e (g:=41) h0 h16 rfl ?_
 intro a17 b17 c17 d17 h17
 refine mulC_e (g:=43) h0 h17 rfl ?_
 intro a18 b18 c18 d18 h18
 refine mulC_e (g:=45) h0 h18 rfl ?_
 intro a19 b19 c19 d19 h19
 refine mulC_e (g:=57) h6 h19 rfl ?_
 intro a20 b20 c20 d20 h20
 refine mulC_e (g:=96) h16 h20 rfl ?_
 intro a21 b21 c21 d21 h21
 refine sqs_e (g:=3072) h21 rfl ?_
 intro a22 b22 c22 d22 h22
 refine mulC_e (g:=3097) h12 h22 rfl ?_
 intro a23 b23 c23 d23 h23
 refine sqs_e (g:=1585664) h23 rfl ?_
 intro a24 b24 c24 d24 h24
 refine mulC_e (g:=1585703) h16 h24 rfl ?_
 intro a25 b25 c25 d25 h25
 refine sqs_e (g:=405939968) h25 rfl ?_
 intro a26 b26 c26 d26 h26
 refine mulC_e (g:=405940025) h20 h26 rfl ?_
 intro a27 b27 c27 d27 h27
 refine sqs_e (g:=6495040400) h27 rfl ?_
 intro a28 b28 c28 d28 h28
 refine mulC_e (g:=6495040407) h4 h28 rfl ?_
 intro a29 b29 c29 d29 h29
 refine sqs_e (g:=3325460688384) h29 rfl ?_
 intro a30 b30 c30 d30 h30
 refine mulC_e (g:=3325460688403) h10 h30 rfl ?_
 intro a31 b31 c31 d31 h31
 refine sqs_e (g:=425658968115584) h31 rfl ?_
 intro a32 b32 c32 d32 h32
 refine mulC_e (g:=425658968115597) h7 h32 rfl ?_
 intro a33 b33 c33 d33 h33
 refine sqs_e (g:=3486998266802970624) h33 rfl ?_
 intro a34 b34 c34 d34 h34
 refine mulC_e (g:=3486998266802970665) h17 h34 rfl ?_
 intro a35 b35 c35 d35 h35
 refine sqs_e (g:=111583944537695061280) h35 rfl ?_
 intro a36 b36 c36 d36 h36
 refine mulC_e (g:=111583944537695061303) h11 h36 rfl ?_
 intro a37 b37 c37 d37 h37
 refine sqs_e (g:=14282744900824967846784) h37 rfl ?_
 intro a38 b38 c38 d38 h38
 refine mulC_e (g:=14282744900824967846789) h2 h38 rfl ?_
 intro a39 b39 c39 d39 h39
 refine sqs_e (g:=14625530778444767075111936) h39 rfl ?_
 intro a40 b40 c40 d40 h40
 refine mulC_e (g:=14625530778444767075111953) h9 h40 rfl ?_
 intro a41 b41 c41 d41 h41
 refine sqs_e (g:=936033969820465092807164992) h41 rfl ?_
 intro a42 b42 c42 d42 h42
 refine mulC_e (g:=936033969820465092807165019) h13 h42 rfl ?_
 intro a43 b43 c43 d43 h43
 refine sqs_e (g:=29953087034254882969829280608) h43 rfl ?_
 intro a44 b44 c44 d44 h44
 refine mulC_e (g:=29953087034254882969829280621) h7 h44 rfl ?_
 intro a45 b45 c45 d45 h45
 refine sqs_e (g:=7667990280769250040276295838976) h45 rfl ?_
 intro a46 b46 c46 d46 h46
 refine mulC_e (g:=7667990280769250040276295838979) h1 h46 rfl ?_
 intro a47 b47 c47 d47 h47
 refine sqs_e (g:=31408088190030848164971707756457984) h47 rfl ?_
 intro a48 b48 c48 d48 h48
 refine mulC_e (g:=31408088190030848164971707756458027) h18 h48 rfl ?_
 intro a49 b49 c49 d49 h49
 refine sqs_e (g:=16080941153295794260465514371306509824) h49 rfl ?_
 intro a50 b50 c50 d50 h50
 refine mulC_e (g:=16080941153295794260465514371306509847) h11 h50 rfl ?_
 intro a51 b51 c51 d51 h51
 refine sqs_e (g:=1029180233810930832669792919763616630208) h51 rfl ?_
 intro a52 b52 c52 d52 h52
 refine mulC_e (g:=1029180233810930832669792919763616630233) h12 h52 rfl ?_
 intro a53 b53 c53 d53 h53
 refine sqs_e (g:=32933767481949786645433373432435732167456) h53 rfl ?_
 intro a54 b54 c54 d54 h54
 refine mulC_e (g:=32933767481949786645433373432435732167471) h8 h54 rfl ?_
 intro a55 b55 c55 d55 h55
 refine sqs_e (g:=134896711606066326099695097579256758957961216) h55 rfl ?_
 intro a56 b56 c56 d56 h56
 refine mulC_e (g:=134896711606066326099695097579256758957961261) h19 h56 rfl ?_
 intro a57 b57 c57 d57 h57
 refine sqs_e (g:=17266779085576489740760972490144865146619041408) h57 rfl ?_
 intro a58 b58 c58 d58 h58
 refine mulC_e (g:=17266779085576489740760972490144865146619041449) h17 h58 rfl ?_
 intro a59 b59 c59 d59 h59
 refine sqs_e (g:=8840590891815162747269617914954170955068949221888) h59 rfl ?_
 intro a60 b60 c60 d60 h60
 refine mulC_e (g:=8840590891815162747269617914954170955068949221933) h19 h60 rfl ?_
 intro a61 b61 c61 d61 h61
 refine sqs_e (g:=1131595634152340831650511093114133882248825500407424) h61 rfl ?_
 intro a62 b62 c62 d62 h62
 refine mulC_e (g:=1131595634152340831650511093114133882248825500407431) h4 h62 rfl ?_
 intro a63 b63 c63 d63 h63
 refine sqs_e (g:=579376964685998505805061679674436547711398656208604672) h63 rfl ?_
 intro a64 b64 c64 d64 h64
 refine mulC_e (g:=579376964685998505805061679674436547711398656208604729) h20 h64 rfl ?_
 intro a65 b65 c65 d65 h65
 refine sqs_e (g:=9270031434975976092880986874790984763382378499337675664) h65 rfl ?_
 intro a66 b66 c66 d66 h66
 refine mulC_e (g:=9270031434975976092880986874790984763382378499337675669) h2 h66 rfl ?_
 intro a67 b67 c67 d67 h67
 refine sqs_e (g:=1186564023676924939888766319973246049712944447915222485632) h67 rfl ?_
 intro a68 b68 c68 d68 h68
 refine mulC_e (g:=1186564023676924939888766319973246049712944447915222485645) h7 h68 rfl ?_
 intro a69 b69 c69 d69 h69
 refine sqs_e (g:=75940097515323196152881044478287747181628444666574239081280) h69 rfl ?_
 intro a70 b70 c70 d70 h70
 refine mulC_e (g:=75940097515323196152881044478287747181628444666574239081295) h8 h70 rfl ?_
 intro a71 b71 c71 d71 h71
 refine sqs_e (g:=2430083120490342276892193423305207909812110229330375650601440) h71 rfl ?_
 intro a72 b72 c72 d72 h72
 refine mulC_e (g:=2430083120490342276892193423305207909812110229330375650601441) hx h72 rfl ?_
 intro a73 b73 c73 d73 h73
 refine sqs_e (g:=4976810230764220983075212130929065799295201749668609332431751168) h73 rfl ?_
 intro a74 b74 c74 d74 h74
 refine mulC_e (g:=4976810230764220983075212130929065799295201749668609332431751203) h15 h74 rfl ?_
 intro a75 b75 c75 d75 h75
 refine sqs_e (g:=10192507352605124573338034444142726756956573183321311912820226463744) h75 rfl ?_
 intro a76 b76 c76 d76 h76
 refine mulC_e (g:=10192507352605124573338034444142726756956573183321311912820226463789) h19 h76 rfl ?_
 intro a77 b77 c77 d77 h77
 refine sqs_e (g:=163080117641681993173408551106283628111305170933140990605123623420624) h77 rfl ?_
 intro a78 b78 c78 d78 h78
 refine mulC_e (g:=163080117641681993173408551106283628111305170933140990605123623420635) h5 h78 rfl ?_
 intro a79 b79 c79 d79 h79
 refine sqs_e (g:=83497020232541180504785178166417217592988247517768187189823295191365120) h79 rfl ?_
 intro a80 b80 c80 d80 h80
 refine mulC_e (g:=83497020232541180504785178166417217592988247517768187189823295191365151) h14 h80 rfl ?_
 intro a81 b81 c81 d81 h81
 refine sqs_e (g:=21375237179530542209225005610602807703804991364548655920594763568989478656) h81 rfl ?_
 intro a82 b82 c82 d82 h82
 refine mulC_e (g:=21375237179530542209225005610602807703804991364548655920594763568989478713) h20 h82 rfl ?_
 intro a83 b83 c83 d83 h83
 refine mulC_e (g:=21375237179530542209225005610602807703804991364548655920594763568989478719) h3 h83 rfl ?_
 intro a84 b84 c84 d84 h84
 refine sqs_e (g:=2736030358979909402780800718157159386087038894662227957836129736830653276032) h84 rfl ?_
 intro a85 b85 c85 d85 h85
 refine mulC_e (g:=2736030358979909402780800718157159386087038894662227957836129736830653276073) h17 h85 rfl ?_
 intro a86 b86 c86 d86 h86
 refine mulC_e (g:=5472060717959818805561601436314318772174077789324455915672259473661306552146) h86 h86 rfl ?_
 intro a87 b87 c87 d87 h87
 refine hup.le (memL_sub [1,513,529,537,545,553,561,569,577,585,593,601,609,617,625,633,641,649,657,665,673] rfl (by decide) (by
  intro x hx
  simp only[List.mem_cons,List.not_mem_nil,or_false]at hx ⊢
  simp[hx])) (hK _ _ _ _ h87)
def EsR (X:Nat) (y0 y1 y2 y3:Int):Prop:=EP X e4N y0 y1 y2 y3
theorem EsR.el {X:Nat} {a b c d:Int} (h:EsR X a b c d):El a b c d (mont (X ^ e4N)):=h
theorem EsR.ex (X:Nat):∃a b c d,EsR X a b c d:=⟨_,_,_,_,El.of (mont_lt _)⟩
def gEs:G0:=fun args l K=>
 match args,l with
 | [.ptr 1 (.lit 0),.agg [.int .u64 (.sym a0),.int .u64 (.sym a1),.int .u64 (.sym a2),.int .u64 (.sym a3)]],[(1,⟨false,z⟩)]=>c4 z fun _ _ _ _=>∃X,El a0 a1 a2 a3 (mont X)∧∀y0 y1 y2 y3,EsR X y0 y1 y2 y3→K (.ptr 1 (.lit 0)) (memL [(1,⟨false,w4 y0 y1 y2 y3⟩)])
 | _,_=>False
theorem es_good:Good gEs:=by
 constructor
 ·intro args l K K' hk h
  unfold gEs at h ⊢
  split at h
  ·exact c4_mono (fun _ _ _ _ h=>h.elim fun X h=>⟨X,h.1,fun y0 y1 y2 y3 hy=>hk _ _ (h.2 y0 y1 y2 y3 hy)⟩) h
  ·exact h.elim
 ·intro args l K h
  unfold gEs at h
  split at h
  ·obtain ⟨_,_,_,_,_,h⟩:=c4_ex h
   obtain ⟨X,_,h⟩:=h
   obtain ⟨a,b,c,d,e⟩:=EsR.ex X
   exact ⟨_,_,h _ _ _ _ e⟩
  ·exact h.elim
theorem es_ok (args:List SV) (l:List (Nat×Reg)) (K:SV→Mem→Prop) (hup:KUp K) (h:gEs args l K):∃U,execF cxEs U Tryz.f95 64 args (memL l) K:=by
 unfold gEs at h
 split at h
 ·rename_i a0 a1 a2 a3 zz
  obtain ⟨z0,z1,z2,z3,rfl,q0⟩:=c4_ex h
  obtain ⟨X,hx,hK⟩:=q0
  have hx:EP X 1 a0 a1 a2 a3:=by unfold EP;rw[Nat.pow_one];exact hx
  refine ⟨uEs,?_⟩
  have:=vc_es z0 z1 z2 z3 a0 a1 a2 a3 K
  unfold ag4 at this
  rw[this]
  exact es_walk hup hx fun y0 y1 y2 y3 hy=>hK y0 y1 y2 y3 hy
 ·exact h.elim
def kEs:Ef Tryz.prog:=mkE mixed 95 Tryz.func95 (by decide) (by kernel_rfl) [] [.ptr 4 false,.num] gEs es_good es_ok
def cxBc:Cx Tryz.prog:= { rds:= [],efs:= [cSu],eqs:= [] }
theorem vc_bc (K:SV→Mem→Prop):(execF cxBc u9 Tryz.f55 64 [] (memL []) K)=(Wd 3∧∀a:Nat,a=19052624634359457937016868847204597229365286637454337178037183604060995791063→K (.ptr 521 (.lit 0)) (memL [(521,⟨false,.cells
 [.int .u64 (.sym (lm a 0)),.int .u64 (.sym (lm a 1)),.int .u64 (.sym (lm a 2)),.int .u64 (.sym (lm a 3))]⟩)])):=by kernel_rfl
def BcR (y0 y1 y2 y3:Int):Prop:=El y0 y1 y2 y3 (mont 3)
theorem mont3:mont 3=19052624634359457937016868847204597229365286637454337178037183604060995791063:=by decide +kernel
def gBc:G0:=fun args l K=>
 match args,l with
 | [],[]=>∀y0 y1 y2 y3,BcR y0 y1 y2 y3→K (.ptr 521 (.lit 0)) (memL [(521,⟨false,w4 y0 y1 y2 y3⟩)])
 | _,_=>False
theorem bc_good:Good gBc:=by
 constructor
 ·intro args l K K' hk h
  unfold gBc at h ⊢
  split at h
  ·exact fun y0 y1 y2 y3 hy=>hk _ _ (h y0 y1 y2 y3 hy)
  ·exact h.elim
 ·intro args l K h
  unfold gBc at h
  split at h
  ·exact ⟨_,_,h _ _ _ _ (El.of (mont_lt 3))⟩
  ·exact h.elim
theorem bc_ok (args:List SV) (l:List (Nat×Reg)) (K:SV→Mem→Prop) (hup:KUp K) (h:gBc args l K):∃U,execF cxBc U Tryz.f55 64 args (memL l) K:=by
 unfold gBc at h
 split at h
 ·refine ⟨u9,?_⟩
  rw[vc_bc]
  refine ⟨by decide,fun r hr=> ?_⟩
  have:=h _ _ _ _ (El.of (mont_lt 3))
  rw[hr,←mont3]
  exact this
 ·exact h.elim
def kBc:Ef Tryz.prog:=mkNw mixed 55 Tryz.func55 (by decide) (by kernel_rfl) [] [] gBc bc_good bc_ok
def cxSg:Cx Tryz.prog:= { rds:= [cBits],efs:= [],eqs:= [] }
theorem vc_sg (a0 a1 a2 a3:Int) (K:SV→Mem→Prop):(execF cxSg u9 Tryz.f59 64 [.ptr 1 (.lit 0)] (memL [(1,⟨true,w4 a0 a1 a2 a3⟩)]) K)=(W4 a0 a1 a2 a3∧B4 (bitsV a0 a1 a2 a3 0) (bitsV a0 a1 a2 a3 1) (bitsV a0 a1 a2 a3 2) (bitsV
 a0 a1 a2 a3 3) fun a b c d=>B1 (Int.tmod a 2) fun e=>K (U e) (memL [(1,⟨true,.cells [U a0,U a1,U a2,U a3]⟩),(537,⟨false,.cells [U a,U b,U c,U d]⟩)])):=by kernel_rfl
def rSg:R0:=fun args l=>
 match args,l with
 | [.ptr 1 (.lit 0)],[(1,⟨true,x⟩)]=>r4 x fun a b c d=>some (some (Wd a∧Wd b∧Wd c∧Wd d),.int .u64 (.sym ((mmul (V4 a b c d).toNat 1%2:Nat):Int)))
 | _,_=>none
theorem sg_val {a b c d:Int}:Int.tmod (bitsV a b c d 0) 2=((mmul (V4 a b c d).toNat 1%2:Nat):Int):=by
 unfold bitsV
 exact par (ws_q (mmul_lt _ _))
theorem sg_ok (args:List SV) (l:List (Nat×Reg)) (p:Ob) (v:SV) (h:rSg args l=some (p,v)) (hp:p.ok):∃U,execF cxSg U Tryz.f59 64 args (memL l) fun v' _=>v'=v:=by
 unfold rSg at h
 split at h
 ·rename_i x
  obtain ⟨a,b,c,d,rfl,q⟩:=r4_ex h
  simp only[Option.some.injEq,Prod.mk.injEq]at q
  obtain ⟨rfl,rfl⟩:=q
  refine ⟨u9,?_⟩
  rw[vc_sg]
  refine ⟨hp,?_⟩
  rw[B4_eq,B1_eq,sg_val]
  rfl
 ·cases h
def cSg:Rd Tryz.prog:=mkR mixed 59 Tryz.func59 (by decide) (by kernel_rfl) [] [.ptr 4 true] rSg sg_ok
def cxSq:Cx Tryz.prog:= { rds:= [cEq],efs:= [kEs,kSqr,kSet],eqs:= [] }
theorem vc_sqt (z0 z1 z2 z3 a0 a1 a2 a3:Int) (K:SV→Mem→Prop):(execF cxSq u9 Tryz.f58 64 [.ptr 1 (.lit 0),.ptr 9 (.lit 0)] (memL [(1,⟨false,w4 z0 z1 z2 z3⟩),(9,⟨true,w4 a0 a1 a2 a3⟩)]) K)=(B4 a0 a1 a2 a3 fun m n o p=>∃i
 :Nat,El m n o p (mont i)∧∀a b c d:Int,EsR i a b c d→∃j k:Nat,(Ws a b c d j∧El a b c d k)∧∀l:Nat,l=mmul j k→∀e f g h:Int,El e f g h l→(W4 e f g h∧W4 a0 a1 a2 a3)∧(decide (V4 e f g h=V4 a0 a1 a2 a3)=
 true→K (.ptr 1 (.lit 0)) (memL [(1,⟨false,.cells [.int .u64 (.sym a),.int .u64 (.sym b),.int .u64 (.sym c),.int .u64 (.sym d)]⟩),(9,⟨true,.cells [U a0,U a1,U a2,U a3]⟩),(521,⟨false,.cells [.int .u64 (.sym a),.int .u64
 (.sym b),.int .u64 (.sym c),.int .u64 (.sym d)]⟩),(529,⟨false,.cells [.int .u64 (.sym e),.int .u64 (.sym f),.int .u64 (.sym g),.int .u64 (.sym h)]⟩)]))∧(decide (V4 e f g h=V4 a0 a1 a2 a3)=false→K (.val (.pointer none))
 (memL [(1,⟨false,.cells [U z0,U z1,U z2,U z3]⟩),(9,⟨true,.cells [U a0,U a1,U a2,U a3]⟩),(521,⟨false,.cells [.int .u64 (.sym a),.int .u64 (.sym b),.int .u64 (.sym c),.int .u64 (.sym d)]⟩),(529,⟨false,.cells [.int .u64
 (.sym e),.int .u64 (.sym f),.int .u64 (.sym g),.int .u64 (.sym h)]⟩)]))):=by kernel_rfl
theorem sqt_eq {X:Nat} (h:sqN (X%qN)=true):mmul (mont (X ^ e4N)) (mont (X ^ e4N))=mont X:=by
 rw[mont_mul,←mont_mod (X ^ e4N*X ^ e4N),←mont_mod X]
 unfold sqN at h
 have h:=of_decide_eq_true h
 rw[rtN_eq,Nat.pow_mod,Nat.mod_mod,←Nat.pow_mod,←Nat.mul_mod]at h
 rw[h]
theorem EsR.rt {X:Nat} {a b c d:Int} (h:EsR X a b c d):El a b c d (mont (rtN (X%qN))):=by
 have:=h.el
 rw[←mont_mod,Nat.pow_mod,←rtN_eq]at this
 exact this
def gSqt:G0:=fun args l K=>
 match args,l with
 | [.ptr 1 (.lit 0),.ptr 9 (.lit 0)],[(1,⟨false,z⟩),(9,⟨true,x⟩)]=>c4 z fun _ _ _ _=>c4 x fun a0 a1 a2 a3=>∃X,(El a0 a1 a2 a3 (mont X)∧sqN (X%qN)=true)∧∀y0 y1 y2 y3,EsR X y0 y1 y2 y3→K (.ptr 1 (.lit 0)) (memL [(1,⟨false,w4 y0 y1 y2 y3⟩),(9,⟨true,w4 a0 a1 a2 a3⟩)])
 | _,_=>False
theorem sqt_good:Good gSqt:=by
 constructor
 ·intro args l K K' hk h
  unfold gSqt at h ⊢
  split at h
  ·exact c4_mono (fun _ _ _ _ h=>c4_mono (fun _ _ _ _ h=>h.elim fun X h=>⟨X,h.1,fun y0 y1 y2 y3 hy=>hk _ _ (h.2 y0 y1 y2 y3 hy)⟩) h) h
  ·exact h.elim
 ·intro args l K h
  unfold gSqt at h
  split at h
  ·obtain ⟨_,_,_,_,_,h⟩:=c4_ex h
   obtain ⟨_,_,_,_,_,h⟩:=c4_ex h
   obtain ⟨X,_,h⟩:=h
   obtain ⟨a,b,c,d,e⟩:=EsR.ex X
   exact ⟨_,_,h _ _ _ _ e⟩
  ·exact h.elim
theorem sqt_ok (args:List SV) (l:List (Nat×Reg)) (K:SV→Mem→Prop) (hup:KUp K) (h:gSqt args l K):∃U,execF cxSq U Tryz.f58 64 args (memL l) K:=by
 unfold gSqt at h
 split at h
 ·obtain ⟨z0,z1,z2,z3,rfl,q0⟩:=c4_ex h
  obtain ⟨a0,a1,a2,a3,rfl,q1⟩:=c4_ex q0
  obtain ⟨X,⟨hx,hs⟩,hK⟩:=q1
  refine ⟨u9,?_⟩
  rw[vc_sqt z0 z1 z2 z3 a0 a1 a2 a3,B4_eq]
  refine ⟨X,hx,fun y0 y1 y2 y3 hy=>⟨_,_,⟨hy.el.ws,hy.el⟩,?_⟩⟩
  rw[sqt_eq hs]
  rintro _ rfl s0 s1 s2 s3 hq
  refine ⟨⟨hq.wd,hx.wd⟩,fun _=> ?_,fun h=> ?_⟩
  ·exact hup.le (memL_sub [1,9,521,529] rfl (by decide) (by
    intro x hx
    simp only[List.mem_cons,List.not_mem_nil,or_false]at hx ⊢
    rcases hx with hx | hx<;>simp[hx,w4,U])) (hK y0 y1 y2 y3 hy)
  ·exact absurd (by rw[hq.val,hx.val]) (of_decide_eq_false h)
 ·exact h.elim
def kSqt:Ef Tryz.prog:=mkE mixed 58 Tryz.func58 (by decide) (by kernel_rfl) [] [.ptr 4 false,.ptr 4 true] gSqt sqt_good sqt_ok
def cxT:Cx Tryz.prog:= { rds:= [cBits],efs:= [],eqs:= [] }
theorem vc_told (a0 a1 a2 a3 b0 b1 b2 b3:Int) (K:SV→Mem→Prop):(execF cxT u9 Tryz.f12 64 [.agg [.int .u64 (.sym a0),.int .u64 (.sym a1),.int .u64 (.sym a2),.int .u64 (.sym a3),.int .u64 (.sym b0),.int .u64 (.sym b1),.int .u64
 (.sym b2),.int .u64 (.sym b3)]] (memL []) K)=(W4 a0 a1 a2 a3∧L4 (mmul (N4 a0 a1 a2 a3) 1) fun a b c d=>W4 b0 b1 b2 b3∧L4 (mmul (N4 b0 b1 b2 b3) 1) fun e f g h=>K (.agg [U a,U b,U c,U d,U e,U f,U g,U h]) (memL [(513,
 ⟨false,.cells [U a0,U a1,U a2,U a3,U b0,U b1,U b2,U b3]⟩),(521,⟨false,.cells [U a,U b,U c,U d,U e,U f,U g,U h]⟩)])):=by kernel_rfl def rTold:R0:=fun args l=>
 match args,l with
 | [.agg [.int .u64 (.sym a0),.int .u64 (.sym a1),.int .u64 (.sym a2),.int .u64 (.sym a3),.int .u64 (.sym b0),.int .u64 (.sym b1),.int .u64 (.sym b2),.int .u64 (.sym b3)]],[]=>some (some ((Wd a0∧Wd a1∧Wd a2∧Wd a3)∧(Wd b0∧Wd b1∧Wd b2∧Wd b3)),.agg [U (lm (mmul (V4 a0 a1 a2 a3).toNat 1) 0),U (lm (mmul (V4 a0 a1 a2 a3).toNat 1) 1),U (lm (mmul (V4 a0 a1 a2 a3).toNat 1) 2),U (lm (mmul (V4 a0 a1 a2 a3).toNat 1) 3),U (lm (mmul (V4 b0 b1 b2 b3).toNat 1) 0),U (lm (mmul (V4 b0 b1 b2 b3).toNat 1) 1),U (lm (mmul (V4 b0 b1 b2 b3).toNat 1) 2),U (lm (mmul (V4 b0 b1 b2 b3).toNat 1) 3)])
 | _,_=>none
theorem Told_ok (args:List SV) (l:List (Nat×Reg)) (p:Ob) (v:SV) (h:rTold args l=some (p,v)) (hp:p.ok):∃U,execF cxT U Tryz.f12 64 args (memL l) fun v' _=>v'=v:=by
 unfold rTold at h
 split at h
 ·rename_i a0 a1 a2 a3 b0 b1 b2 b3
  simp only[Option.some.injEq,Prod.mk.injEq]at h
  obtain ⟨rfl,rfl⟩:=h
  have hp:(Wd a0∧Wd a1∧Wd a2∧Wd a3)∧(Wd b0∧Wd b1∧Wd b2∧Wd b3):=hp
  refine ⟨u9,?_⟩
  rw[vc_told,L4_eq,L4_eq]
  exact ⟨hp.1,hp.2,rfl⟩
 ·cases h
def cTold:Rd Tryz.prog:=mkR mixed 12 Tryz.func12 (by decide) (by kernel_rfl) [] [.num] rTold Told_ok
def cxMc:Cx Tryz.prog:= { rds:= [cLgd,cSg],efs:= [kSo,kSqr,kMulA,kAddA,kSubA,kIv,kBc,kSel,kSqt,kNeg],eqs:= [] }
def bcC (K:Int→Int→Int→Int→Prop):Prop:=∀y0 y1 y2 y3,BcR y0 y1 y2 y3→K y0 y1 y2 y3
def ivC (a0 a1 a2 a3:Int) (K:Int→Int→Int→Int→Prop):Prop:=∃X,El a0 a1 a2 a3 (mont X)∧∀y0 y1 y2 y3,IvR X y0 y1 y2 y3→K y0 y1 y2 y3
def sqC (a0 a1 a2 a3:Int) (K:Int→Int→Int→Int→Prop):Prop:=∃X,(El a0 a1 a2 a3 (mont X)∧sqN (X%qN)=true)∧∀y0 y1 y2 y3,EsR X y0 y1 y2 y3→K y0 y1 y2 y3
def ngC (a0 a1 a2 a3:Int) (K:Int→Int→Int→Int→Prop):Prop:=∃x,El a0 a1 a2 a3 x∧∀r,r=negN x→∀y0 y1 y2 y3,El y0 y1 y2 y3 r→K y0 y1 y2 y3
def McC (a0 a1 a2 a3:Int) (P:SV→Prop):Prop:=
 mulC a0 a1 a2 a3 a0 a1 a2 a3 fun p0a p0b p0c p0d=>
 mulC p0a p0b p0c p0d 1248766071674976557 10548065924188627562 16242874202584236114 560012691975822483 fun p1a p1b p1c p1d=>
 addC 15230403791020821917 754611498739239741 7381016538464732716 1011752739694698287 p1a p1b p1c p1d fun p2a p2b p2c p2d=>
 subC 15230403791020821917 754611498739239741 7381016538464732716 1011752739694698287 p1a p1b p1c p1d fun p3a p3b p3c p3d=>
 mulC p3a p3b p3c p3d p2a p2b p2c p2d fun p4a p4b p4c p4d=>
 ivC p4a p4b p4c p4d fun p5a p5b p5c p5d=>
 mulC a0 a1 a2 a3 p3a p3b p3c p3d fun p6a p6b p6c p6d=>
 mulC p6a p6b p6c p6d p5a p5b p5c p5d fun p7a p7b p7c p7d=>
 mulC p7a p7b p7c p7d 8972444824031832946 5898165201680709844 10690697896010808308 824354360198587078 fun p8a p8b p8c p8d=>
 subC 12997850613838968789 14304628359724097447 2950087706404981016 1237622763554136189 p8a p8b p8c p8d fun p9a p9b p9c p9d=>
 mulC p9a p9b p9c p9d p9a p9b p9c p9d fun p10a p10b p10c p10d=>
 mulC p10a p10b p10c p10d p9a p9b p9c p9d fun p11a p11b p11c p11d=>
 bcC fun p12a p12b p12c p12d=>
 addC p11a p11b p11c p11d p12a p12b p12c p12d fun p13a p13b p13c p13d=>
 ((W4 p13a p13b p13c p13d∧V4 p13a p13b p13c p13d<qI)∧B1 (lgV (N4 p13a p13b p13c p13d)) fun l1=>B1 (shrv .i64 l1 1) fun s1=>
 addC 12997850613838968789 14304628359724097447 2950087706404981016 1237622763554136189 p8a p8b p8c p8d fun p14a p14b p14c p14d=>
 mulC p14a p14b p14c p14d p14a p14b p14c p14d fun p15a p15b p15c p15d=>
 mulC p15a p15b p15c p15d p14a p14b p14c p14d fun p16a p16b p16c p16d=>
 bcC fun p17a p17b p17c p17d=>
 addC p16a p16b p16c p16d p17a p17b p17c p17d fun p18a p18b p18c p18d=>
 ((W4 p18a p18b p18c p18d∧V4 p18a p18b p18c p18d<qI)∧B1 (lgV (N4 p18a p18b p18c p18d)) fun l2=>B1 (shrv .i64 l2 1) fun s2=>B1 (bxor .i64 (-1) s1) fun s3=>B1 (bor .i64 s2 s3) fun s4=>
 mulC p2a p2b p2c p2d p2a p2b p2c p2d fun p19a p19b p19c p19d=>
 mulC p19a p19b p19c p19d p5a p5b p5c p5d fun p20a p20b p20c p20d=>
 mulC p20a p20b p20c p20d p20a p20b p20c p20d fun p21a p21b p21c p21d=>
 mulC p21a p21b p21c p21d 12077013577332951089 1872782865047492001 13514471836495169457 415649166299893576 fun p22a p22b p22c p22d=>
 addC p22a p22b p22c p22d 15230403791020821917 754611498739239741 7381016538464732716 1011752739694698287 fun p23a p23b p23c p23d=>
 selC s1 p9a p9b p9c p9d p23a p23b p23c p23d fun p24a p24b p24c p24d=>
 selC s4 p14a p14b p14c p14d p24a p24b p24c p24d fun p25a p25b p25c p25d=>
 mulC p25a p25b p25c p25d p25a p25b p25c p25d fun p26a p26b p26c p26d=>
 mulC p26a p26b p26c p26d p25a p25b p25c p25d fun p27a p27b p27c p27d=>
 bcC fun p28a p28b p28c p28d=>
 addC p27a p27b p27c p27d p28a p28b p28c p28d fun p29a p29b p29c p29d=>
 sqC p29a p29b p29c p29d fun p30a p30b p30c p30d=>
 (W4 a0 a1 a2 a3∧B1 ((mmul (N4 a0 a1 a2 a3) 1%2:Nat):Int) fun g1=>(W4 p30a p30b p30c p30d∧B1 ((mmul (N4 p30a p30b p30c p30d) 1%2:Nat):Int) fun g2=>B1 (bxor .u64 g1 g2) fun g3=>
 ngC p30a p30b p30c p30d fun p31a p31b p31c p31d=>
 B1 (IntKind.i64.wrap g3) fun g4=>selC g4 p30a p30b p30c p30d p31a p31b p31c p31d fun p32a p32b p32c p32d=>
 B4 p25a p25b p25c p25d fun x0 x1 x2 x3=>B4 p32a p32b p32c p32d fun y0 y1 y2 y3=>P (.agg [U x0,U x1,U x2,U x3,U y0,U y1,U y2,U y3])))))
theorem vc_mc (a0 a1 a2 a3:Int) (P:SV→Prop):execF cxMc u9 Tryz.f23 64 [.ptr 1 (.lit 0)] (memL [(1,⟨true,w4 a0 a1 a2 a3⟩)]) (fun v _=>P v)=McC a0 a1 a2 a3 P:=by kernel_rfl
theorem mulC_m {X Y:Nat} {a0 a1 a2 a3 b0 b1 b2 b3:Int} {K:Int→Int→Int→Int→Prop} (ha:El a0 a1 a2 a3 (mont X)) (hb:El b0 b1 b2 b3 (mont Y)) (h:∀y0 y1 y2 y3,El y0 y1 y2 y3 (mont (X*Y%qN))→K y0 y1 y2 y3):mulC a0 a1 a2 a3 b0 b1 b2 b3 K:=
 ⟨_,_,⟨ha.ws,hb⟩,fun r hr y0 y1 y2 y3 hy=>h y0 y1 y2 y3 (by rw[mont_mul,←mont_mod]at hr;rw[hr]at hy;exact hy)⟩
theorem addC_m {X Y:Nat} {a0 a1 a2 a3 b0 b1 b2 b3:Int} {K:Int→Int→Int→Int→Prop} (ha:El a0 a1 a2 a3 (mont X)) (hb:El b0 b1 b2 b3 (mont Y)) (h:∀y0 y1 y2 y3,El y0 y1 y2 y3 (mont ((X+Y)%qN))→K y0 y1 y2 y3):addC a0 a1 a2 a3 b0 b1 b2 b3 K:=
 ⟨_,_,⟨ha,hb⟩,fun r hr y0 y1 y2 y3 hy=>h y0 y1 y2 y3 (by rw[mont_add,←mont_mod]at hr;rw[hr]at hy;exact hy)⟩
theorem mont_fz (x:Nat):fz (mont x)=fz x*fz (2 ^ 256):=by
 unfold mont mmul
 rw[fz_mod,fz_mul,fz_mul]
 have e:fz r2N*fz rInv=fz (2 ^ 256):=by
  rw[←fz_mul,fz_eq]
  decide +kernel
 rw[←e]
 grobner
theorem nat_fz {a b:Nat} (ha:a<qN) (hb:b<qN) (h:fz a=fz b):a=b:=by
 have:=fz_eq.1 h
 rwa [Nat.mod_eq_of_lt ha,Nat.mod_eq_of_lt hb]at this
theorem subN_fz {x y:Nat} (h:y≤qN):fz (subN x y)=fz x-fz y:=by
 unfold subN
 rw[fz_mod,fz_sub h]
theorem mont_sub {X Y:Nat} (hY:Y<qN):subN (mont X) (mont Y)=mont ((X+(qN-Y))%qN):=by
 refine nat_fz (show subN (mont X) (mont Y)<qN from Nat.mod_lt _ (by decide)) (mont_lt _) ?_
 rw[subN_fz (Nat.le_of_lt (mont_lt Y)),mont_fz,mont_fz,mont_fz,fz_mod,fz_sub (Nat.le_of_lt hY)]
 generalize fz (2 ^ 256)=R
 grobner
theorem mont_neg {Y:Nat} (hY:Y<qN):negN (mont Y)=mont ((0+(qN-Y))%qN):=by
 rw[←mont_sub hY,mont_zero]
 unfold negN subN
 rw[Nat.zero_add]
theorem subC_m {X Y:Nat} {a0 a1 a2 a3 b0 b1 b2 b3:Int} {K:Int→Int→Int→Int→Prop} (ha:El a0 a1 a2 a3 (mont X)) (hb:El b0 b1 b2 b3 (mont Y)) (hY:Y<qN) (h:∀y0 y1 y2 y3,El y0 y1 y2 y3 (mont ((X+(qN-Y))%qN))→K y0 y1 y2 y3):subC a0 a1 a2 a3 b0 b1 b2 b3 K:=
 ⟨_,_,⟨ha,hb⟩,fun r hr y0 y1 y2 y3 hy=>h y0 y1 y2 y3 (by rw[mont_sub hY]at hr;rw[hr]at hy;exact hy)⟩
theorem IvR.inv {X:Nat} {y0 y1 y2 y3:Int} (h:IvR X y0 y1 y2 y3) (hX:X<qN):El y0 y1 y2 y3 (mont (inv0 X)):=by
 obtain ⟨Y,hy,hl,h0,h1⟩:=h
 have e:Y=inv0 X:=by
  by_cases hx:X%qN=0
  ·rw[h0 hx]
   rw[Nat.mod_eq_of_lt hX]at hx
   rw[hx,inv0_zero]
  ·exact inv0_unique hl (by rw[Nat.mul_comm];exact h1 hx)
 rw[←e]
 exact hy
theorem ivC_m {X:Nat} {a0 a1 a2 a3:Int} {K:Int→Int→Int→Int→Prop} (ha:El a0 a1 a2 a3 (mont X)) (hX:X<qN) (h:∀y0 y1 y2 y3,El y0 y1 y2 y3 (mont (inv0 X))→K y0 y1 y2 y3):ivC a0 a1 a2 a3 K:=
 ⟨X,ha,fun y0 y1 y2 y3 hy=>h y0 y1 y2 y3 (hy.inv hX)⟩
theorem bcC_m {K:Int→Int→Int→Int→Prop} (h:∀y0 y1 y2 y3,El y0 y1 y2 y3 (mont 3)→K y0 y1 y2 y3):bcC K:=h
theorem sqC_m {X:Nat} {a0 a1 a2 a3:Int} {K:Int→Int→Int→Int→Prop} (ha:El a0 a1 a2 a3 (mont X)) (hX:X<qN) (hs:sqN X=true) (h:∀y0 y1 y2 y3,El y0 y1 y2 y3 (mont (rtN X))→K y0 y1 y2 y3):sqC a0 a1 a2 a3 K:=
 ⟨X,⟨ha,by rw[Nat.mod_eq_of_lt hX];exact hs⟩,fun y0 y1 y2 y3 hy=>h y0 y1 y2 y3 (by have:=hy.rt;rw[Nat.mod_eq_of_lt hX]at this;exact this)⟩
theorem ngC_m {X:Nat} {a0 a1 a2 a3:Int} {K:Int→Int→Int→Int→Prop} (ha:El a0 a1 a2 a3 (mont X)) (hX:X<qN) (h:∀y0 y1 y2 y3,El y0 y1 y2 y3 (mont ((0+(qN-X))%qN))→K y0 y1 y2 y3):ngC a0 a1 a2 a3 K:=
 ⟨_,ha,fun r hr y0 y1 y2 y3 hy=>h y0 y1 y2 y3 (by rw[mont_neg hX]at hr;rw[hr]at hy;exact hy)⟩
theorem mont_J (x:Nat) (h:x%qN≠0):J (mont x) qN=J x qN:=by
 have e:mont x%qN=x*(2 ^ 128*2 ^ 128)%qN:=by
  rw[←fz_eq,mont_fz,fz_mul,←Nat.pow_add]
 have n2:2 ^ 128%qN≠0:=by decide
 rw[←J_mod,e,J_mod,J_mulN h (mul_ne n2 n2),J_mulN n2 n2,J_self n2,Int.mul_one]
theorem lgV_mont {x:Nat} (h:x<qN):lgV (mont x)=lgN x:=by
 unfold lgV lgN
 by_cases h0:x=0
 ·rw[h0,mont_zero]
 ·have hm:mont x≠0:=by
   intro e
   have:=mont_back x
   rw[e,mmul_zero,Nat.mod_eq_of_lt h]at this
   exact h0 this.symm
  rw[if_neg hm,if_neg h0]
  exact mont_J x (by rw[Nat.mod_eq_of_lt h];exact h0)
theorem lg_sh {x:Nat} (h:x<qN):shrv .i64 (lgN x) 1=if sqN x=true then 0 else -1:=by
 by_cases hs:sqN x=true
 ·rw[if_pos hs]
  have hn:=(sqN_iff h).1 hs
  rcases lgN_cases h with e | e | e
  ·rw[e];rfl
  ·rw[e];rfl
  ·exact absurd e hn
 ·rw[if_neg hs]
  have e:lgN x= -1:=by
   rcases lgN_cases h with e | e | e
   ·exact absurd ((sqN_iff h).2 (by rw[e];decide)) hs
   ·exact absurd ((sqN_iff h).2 (by rw[e];decide)) hs
   ·exact e
  rw[e];rfl
theorem gN_comm (x:Nat):(x*x%qN*x%qN+3)%qN=gN x:=by
 unfold gN
 rw[Nat.mul_comm (x*x%qN)]
theorem selC_m {s:Int} {X Y:Nat} {a0 a1 a2 a3 b0 b1 b2 b3:Int} {K:Int→Int→Int→Int→Prop} (hs:s=0∨s=1∨s= -1) (ha:El a0 a1 a2 a3 (mont X)) (hb:El b0 b1 b2 b3 (mont Y)) (h:∀y0 y1 y2 y3,El y0 y1 y2 y3 (mont (if s=0 then X else Y))→K y0 y1 y2 y3):selC s a0 a1 a2 a3 b0 b1 b2 b3 K:=by
 refine ⟨⟨hs,ha.wd,hb.wd⟩,fun e=>h _ _ _ _ ?_,fun e=>h _ _ _ _ ?_⟩
 ·rw[if_pos e];exact ha
 ·rw[if_neg e];exact hb
theorem Vlt' {a b c d:Int} {x:Nat} (h:El a b c d x):V4 a b c d<qI:=by
 have:=h.lt
 rw[h.val,qI_eq]
 omega
theorem sel1 (p:Bool):(if p=true then (0:Int)else -1)=0∨(if p=true then (0:Int)else -1)=1∨(if p=true then (0:Int)else -1)= -1:=by
 cases p<;>simp
theorem or_val (p r:Bool):bor .i64 (if r=true then (0:Int)else -1) (bxor .i64 (-1) (if p=true then (0:Int)else -1))=if p=false∧r=true then 0 else -1:=by
 cases p<;>cases r<;>decide +kernel
theorem sel2 (p r:Bool):bor .i64 (if r=true then (0:Int)else -1) (bxor .i64 (-1) (if p=true then (0:Int)else -1))=0∨bor .i64 (if r=true then (0:Int)else -1) (bxor .i64 (-1) (if p=true then (0:Int)else -1))=1∨bor .i64 (if r=true then (0:Int)else -1) (bxor .i64 (-1) (if p=true then (0:Int)else -1))= -1:=by
 rw[or_val]
 split
 ·exact .inl rfl
 ·exact .inr (.inr rfl)
theorem sel_x {X:Nat}:(if bor .i64 (if sqN (gN (x2N X))=true then (0:Int)else -1) (bxor .i64 (-1) (if sqN (gN (x1N X))=true then (0:Int)else -1))=0 then x2N X else if (if sqN (gN (x1N X))=true then (0:Int)else -1)=0 then x1N X else x3N X)=mxN X:=by
 rw[or_val]
 unfold mxN
 cases sqN (gN (x1N X))<;>cases sqN (gN (x2N X))<;>simp
theorem sq_mx (X:Nat):sqN (gN (mxN X))=true:=by
 have sv:=svdw X
 unfold mxN
 split
 ·assumption
 ·rename_i h1
  split
  ·assumption
  ·rename_i h2
   rcases sv with h | h | h
   ·exact absurd h h1
   ·exact absurd h h2
   ·exact h
theorem sg_x {a b:Nat} (ha:a<2) (hb:b<2):IntKind.i64.wrap (bxor .u64 (a:Int) (b:Int))=if a=b then 0 else 1:=by
 have:a=0∨a=1:=by omega
 have:b=0∨b=1:=by omega
 rcases ‹a=0∨a=1› with rfl | rfl<;>rcases ‹b=0∨b=1› with rfl | rfl<;>decide +kernel
theorem sel3 (a b:Nat):IntKind.i64.wrap (bxor .u64 ((a%2:Nat):Int) ((b%2:Nat):Int))=0∨IntKind.i64.wrap (bxor .u64 ((a%2:Nat):Int) ((b%2:Nat):Int))=1∨IntKind.i64.wrap (bxor .u64 ((a%2:Nat):Int) ((b%2:Nat):Int))= -1:=by
 rw[sg_x (Nat.mod_lt _ (by omega)) (Nat.mod_lt _ (by omega))]
 split
 ·exact .inl rfl
 ·exact .inr (.inl rfl)
theorem sel_y {X:Nat}:(if IntKind.i64.wrap (bxor .u64 ((X%2:Nat):Int) ((rtN (gN (mxN X))%2:Nat):Int))=0 then rtN (gN (mxN X))else (0+(qN-rtN (gN (mxN X))))%qN)=myN X:=by
 rw[sg_x (Nat.mod_lt _ (by omega)) (Nat.mod_lt _ (by omega))]
 unfold myN
 by_cases h:X%2=rtN (gN (mxN X))%2
 ·rw[if_pos h,if_pos rfl,if_pos h.symm]
 ·rw[if_neg h,if_neg (by decide),if_neg fun e=>h e.symm]
theorem mc_walk {X:Nat} {a0 a1 a2 a3:Int} {P:SV→Prop} (hu:El a0 a1 a2 a3 (mont X)) (hX:X<qN) (hP:P (.agg [U (lm (mont (mxN X)) 0),U (lm (mont (mxN X)) 1),U (lm (mont (mxN X)) 2),U (lm (mont (mxN X)) 3),U (lm (mont (myN X)) 0),U (lm (mont (myN X)) 1),U (lm (mont (myN X)) 2),U (lm (mont (myN X)) 3)])):McC a0 a1 a2 a3 P:=by
 unfold McC
 have k1:El 15230403791020821917 754611498739239741 7381016538464732716 1011752739694698287 (mont 1):=⟨by decide +kernel,by decide +kernel,by decide +kernel,by decide +kernel,mont_lt _⟩
 have k4:El 1248766071674976557 10548065924188627562 16242874202584236114 560012691975822483 (mont 4):=⟨by decide +kernel,by decide +kernel,by decide +kernel,by decide +kernel,mont_lt _⟩
 have kc2:El 12997850613838968789 14304628359724097447 2950087706404981016 1237622763554136189 (mont c2N):=⟨by decide +kernel,by decide +kernel,by decide +kernel,by decide +kernel,mont_lt _⟩
 have kc3:El 8972444824031832946 5898165201680709844 10690697896010808308 824354360198587078 (mont c3N):=⟨by decide +kernel,by decide +kernel,by decide +kernel,by decide +kernel,mont_lt _⟩
 have kc4:El 12077013577332951089 1872782865047492001 13514471836495169457 415649166299893576 (mont c4N):=⟨by decide +kernel,by decide +kernel,by decide +kernel,by decide +kernel,mont_lt _⟩
 refine mulC_m hu hu ?_
 intro p0a p0b p0c p0d h0
 refine mulC_m h0 k4 ?_
 intro p1a p1b p1c p1d h1
 rw[show X*X%qN*4%qN=tN X from rfl]at h1
 refine addC_m k1 h1 ?_
 intro p2a p2b p2c p2d h2
 rw[show (1+tN X)%qN=moN X from rfl]at h2
 refine subC_m k1 h1 (tN_lt X) ?_
 intro p3a p3b p3c p3d h3
 rw[show (1+(qN-tN X))%qN=leN X from rfl]at h3
 refine mulC_m h3 h2 ?_
 intro p4a p4b p4c p4d h4
 refine ivC_m h4 (Nat.mod_lt _ (by decide)) ?_
 intro p5a p5b p5c p5d h5
 rw[show inv0 (leN X*moN X%qN)=ivN X from rfl]at h5
 refine mulC_m hu h3 ?_
 intro p6a p6b p6c p6d h6
 refine mulC_m h6 h5 ?_
 intro p7a p7b p7c p7d h7
 refine mulC_m h7 kc3 ?_
 intro p8a p8b p8c p8d h8
 rw[show X*leN X%qN*ivN X%qN*c3N%qN=stN X from rfl]at h8
 refine subC_m kc2 h8 (stN_lt X) ?_
 intro p9a p9b p9c p9d h9
 rw[show (c2N+(qN-stN X))%qN=x1N X from rfl]at h9
 refine mulC_m h9 h9 ?_
 intro p10a p10b p10c p10d h10
 refine mulC_m h10 h9 ?_
 intro p11a p11b p11c p11d h11
 refine bcC_m ?_
 intro p12a p12b p12c p12d h12
 refine addC_m h11 h12 ?_
 intro p13a p13b p13c p13d h13
 rw[gN_comm]at h13
 refine ⟨⟨h13.wd,Vlt' h13⟩,?_⟩
 rw[B1_eq,B1_eq,show N4 _ _ _ _=_ from Vx h13.ws,lgV_mont (gN_lt _),lg_sh (gN_lt _)]
 refine addC_m kc2 h8 ?_
 intro p14a p14b p14c p14d h14
 rw[show (c2N+stN X)%qN=x2N X from rfl]at h14
 refine mulC_m h14 h14 ?_
 intro p15a p15b p15c p15d h15
 refine mulC_m h15 h14 ?_
 intro p16a p16b p16c p16d h16
 refine bcC_m ?_
 intro p17a p17b p17c p17d h17
 refine addC_m h16 h17 ?_
 intro p18a p18b p18c p18d h18
 rw[gN_comm]at h18
 refine ⟨⟨h18.wd,Vlt' h18⟩,?_⟩
 rw[B1_eq,B1_eq,show N4 _ _ _ _=_ from Vx h18.ws,lgV_mont (gN_lt _),lg_sh (gN_lt _)]
 rw[B1_eq,B1_eq]
 refine mulC_m h2 h2 ?_
 intro p19a p19b p19c p19d h19
 refine mulC_m h19 h5 ?_
 intro p20a p20b p20c p20d h20
 rw[show moN X*moN X%qN*ivN X%qN=vvN X from rfl]at h20
 refine mulC_m h20 h20 ?_
 intro p21a p21b p21c p21d h21
 refine mulC_m h21 kc4 ?_
 intro p22a p22b p22c p22d h22
 refine addC_m h22 k1 ?_
 intro p23a p23b p23c p23d h23
 rw[show (vvN X*vvN X%qN*c4N%qN+1)%qN=x3N X from rfl]at h23
 refine selC_m (sel1 _) h9 h23 ?_
 intro p24a p24b p24c p24d h24
 refine selC_m (sel2 _ _) h14 h24 ?_
 intro p25a p25b p25c p25d h25
 rw[sel_x]at h25
 refine mulC_m h25 h25 ?_
 intro p26a p26b p26c p26d h26
 refine mulC_m h26 h25 ?_
 intro p27a p27b p27c p27d h27
 refine bcC_m ?_
 intro p28a p28b p28c p28d h28
 refine addC_m h27 h28 ?_
 intro p29a p29b p29c p29d h29
 rw[gN_comm]at h29
 refine sqC_m h29 (gN_lt _) (sq_mx X) ?_
 intro p30a p30b p30c p30d h30
 refine ⟨hu.wd,?_⟩
 rw[B1_eq]
 refine ⟨h30.wd,?_⟩
 rw[B1_eq,B1_eq,show N4 a0 a1 a2 a3=_ from Vx hu.ws,show N4 _ _ _ _=_ from Vx h30.ws,mont_back,mont_back,Nat.mod_eq_of_lt hX,Nat.mod_eq_of_lt (rtN_lt _)]
 refine ngC_m h30 (rtN_lt _) ?_
 intro p31a p31b p31c p31d h31
 rw[B1_eq]
 refine selC_m (sel3 _ _) h30 h31 ?_
 intro p32a p32b p32c p32d h32
 rw[sel_y]at h32
 rw[B4_eq,B4_eq]
 obtain ⟨rfl,rfl,rfl,rfl,_⟩:=h25
 obtain ⟨rfl,rfl,rfl,rfl,_⟩:=h32
 exact hP
def mpX (a b c d:Int) (i:Nat):Int:=lm (mont (mxN (mmul (V4 a b c d).toNat 1))) i
def mpY (a b c d:Int) (i:Nat):Int:=lm (mont (myN (mmul (V4 a b c d).toNat 1))) i
def rMc:R0:=fun args l=>
 match args,l with
 | [.ptr 1 (.lit 0)],[(1,⟨true,x⟩)]=>r4 x fun a b c d=>some (some ((Wd a∧Wd b∧Wd c∧Wd d)∧V4 a b c d<21888242871839275222246405745257275088696311157297823662689037894645226208583),.agg [U (mpX a b c d 0),U (mpX a b c d 1),U (mpX a b c d 2),U (mpX a b c d 3),U (mpY a b c d 0),U (mpY a b c d 1),U (mpY a b c d 2),U (mpY a b c d 3)])
 | _,_=>none
theorem mc_ok (args:List SV) (l:List (Nat×Reg)) (p:Ob) (v:SV) (h:rMc args l=some (p,v)) (hp:p.ok):∃U,execF cxMc U Tryz.f23 64 args (memL l) fun v' _=>v'=v:=by
 unfold rMc at h
 split at h
 ·rename_i x
  obtain ⟨a,b,c,d,rfl,q⟩:=r4_ex h
  simp only[Option.some.injEq,Prod.mk.injEq]at q
  obtain ⟨rfl,rfl⟩:=q
  obtain ⟨hw,hl⟩:=(show (Wd a∧Wd b∧Wd c∧Wd d)∧V4 a b c d<21888242871839275222246405745257275088696311157297823662689037894645226208583 from hp)
  refine ⟨u9,?_⟩
  have W:=ws_of hw.1 hw.2.1 hw.2.2.1 hw.2.2.2
  have ev:=W.val
  have hA:(V4 a b c d).toNat<qN:=by unfold qN;omega
  have E:El a b c d (mont (mmul (V4 a b c d).toNat 1)):=by
   rw[mont_of hA]
   exact ⟨W.a,W.b,W.c,W.d,hA⟩
  rw[vc_mc]
  exact mc_walk E (mmul_lt _ _) rfl
 ·cases h
def cMc:Rd Tryz.prog:=mkR mixed 23 Tryz.func23 (by decide) (by kernel_rfl) [] [.ptr 4 true] rMc mc_ok
end Go.Sx
namespace Go.Sx
open Go Go.Proofs
set_option maxRecDepth 100000
def cxHf:Cx Tryz.prog:= { rds:= [cMl,cAd],efs:= [cSE],eqs:= [] }
structure HfI where
 i:Nat
 o:List Int
 cap:Nat
def spN (ys:List Int) (j:Nat):Nat:=chN ys j%qN
def liHf (ys:List Int) (n:Nat):LI where
 ι:=HfI
 keep:= [2,7]
 keepR:= [553]
 F:=fun s=>⟨[(8,.slice 593 (.lit 0) (.sym s.i) (.sym s.cap)),(9,i64n s.i)],[(593,⟨false,.ints .u64 s.o⟩)]⟩
 I:=fun _ s=>s.i≤n∧s.i≤s.cap∧s.o.length=s.cap*4∧s.o.take (4*s.i)=hfW (spN ys) s.i
 μ:=fun s=>n-s.i
 k:=1
structure HgI where
 k:Nat
 r:Nat
def liHg:LI where
 ι:=HgI
 keep:= [2,7,8,9,10]
 keepR:= [553,593]
 F:=fun s=>⟨[(11,i64n s.k)],[(633,⟨false,e4 s.r⟩)]⟩
 I:=fun st s=>s.k≤48∧s.r=beN (((st.reg 553).drop (48*(st.int 9).toNat)).take s.k)%qN
 μ:=fun s=>48-s.k
def uHf (ys:List Int) (n:Nat):Nat→Lp:=fun b=>match b with | 0=> .inv (liHf ys n) | 2=> .inv liHg | _=> .un 0
end Go.Sx
namespace Go.Sx
open Go
set_option maxRecDepth 100000
theorem drop_getD (ys:List Int) (s k:Nat):(ys.drop s).getD k 0=ys.getD (s+k) 0:=by
 rw[List.getD_eq_getElem?_getD,List.getElem?_drop,List.getD_eq_getElem?_getD]
theorem hg_step {ys:List Int} {s k r:Nat} (hk:s+k<ys.length) (hr:r=beN ((ys.drop s).take k)%qN) {b:Int} (hb:b=ys.getD (s+k) 0) (h0:0≤b):
  ((((r*256%21888242871839275222246405745257275088696311157297823662689037894645226208583:Nat):Int)+b)%21888242871839275222246405745257275088696311157297823662689037894645226208583).toNat=beN ((ys.drop s).take (k+1))%qN:=by
 rw[beN_take (by rw[List.length_drop];omega),drop_getD,←hb,hr]
 generalize beN ((ys.drop s).take k)=x
 obtain ⟨c,rfl⟩:∃c:Nat,b=c:=⟨b.toNat,by omega⟩
 rw[Int.toNat_natCast,←Int.natCast_add,show (21888242871839275222246405745257275088696311157297823662689037894645226208583:Int)=((qN:Nat):Int) from rfl,←Int.natCast_emod,Int.toNat_natCast,
  show (21888242871839275222246405745257275088696311157297823662689037894645226208583:Nat)=qN from rfl]
 rw[Nat.add_mod,Nat.mod_mod,Nat.mul_mod,Nat.mod_mod,←Nat.mul_mod,←Nat.add_mod]
theorem chN_row {ys xs:List Int} {n cap j:Nat} (h:Rw ys xs n cap) (hj:48*(j+1)≤n):(ys.drop (48*j)).take 48=(xs.drop (48*j)).take 48:=by
 rw[←h.row,List.drop_take,List.take_take,Nat.min_eq_left (by omega)]
theorem w4_drop {o:List Int} {i n:Nat} {f:Nat→Nat} {ys:List Int} {r:Nat} (ho:o.take (4*i)=hfW f i) (hr:r=f i)
  (h:(i+1)≤n∧ys.length=n*4∧ys.take ((i+1)*4)=List.take (i*4) (List.drop 0 o)++List.take 4 (List.drop 0 [lm r 0,lm r 1,lm r 2,lm r 3])):
  ys.take (4*(i+1))=hfW f (i+1):=by
 rw[Nat.mul_comm 4,h.2.2,List.drop_zero,Nat.mul_comm i 4,ho,hr]
 rfl
theorem hfW_length (f:Nat→Nat):∀n,(hfW f n).length=4*n
 | 0=>rfl
 | n+1=>by
  show (hfW f n++elW (f n)).length=_
  rw[List.length_append,hfW_length f n]
  show 4*n+4=_
  omega
theorem V4_lm {r:Nat} (h:r<qN):V4 (lm r 0) (lm r 1) (lm r 2) (lm r 3)=(r:Int):=lm_val (by unfold qN at h;omega)
theorem V4_one (b:Int):V4 b 0 0 0=b:=by unfold V4;omega
end Go.Sx
namespace Go.Sx
open Go Go.Proofs
set_option maxRecDepth 100000
theorem vc_hf (ex msg dst:List Int) (l c l2 c2:Nat) (n:Int) (K:SV→Mem→Prop):(execF cxHf (uHf ex n.toNat) Tryz.f7 64 [.slice 1 (.lit 0) (.sym l) (.sym c),.slice 9 (.lit 0) (.sym l2) (.sym c2),.int .i64 (.sym n)] (memL [(1,
 ⟨true,.ints .u8 msg⟩),(9,⟨true,.ints .u8 dst⟩)]) K)=(∀e,e=IntKind.wrap IntKind.i64 (48*n)→(0+l*1≤msg.length∧0+l2*1≤dst.length)∧((List.length (List.take (l*1) (List.drop 0 msg))=l∧List.length (List.take
 (l2*1) (List.drop 0 dst))=l2∧Bytes (List.take (l*1) (List.drop 0 msg))∧Bytes (List.take (l2*1) (List.drop 0 dst))∧l≤65536∧l2≤65536∧0≤e∧e≤65536)∧∀(C:List Int) (h:Nat),Rw C (expand (List.take (l*1)
 (List.drop 0 msg)) (List.take (l2*1) (List.drop 0 dst)) (Int.toNat e)) (Int.toNat e) h→∀d:List Int,d=C→((∃g:HfI,(HfI.i g≤Int.toNat n∧HfI.i g≤HfI.cap g∧List.length (HfI.o g)=HfI.cap g*4∧List.take (4*HfI.i g)
 (HfI.o g)=hfW (spN ex) (HfI.i g))∧(n=n∧(Int.toNat e=Int.toNat e∧h=h)∧(0=HfI.i g∧0=HfI.cap g)∧0=((HfI.i g:Nat):Int))∧d=d∧[]=HfI.o g)∧∀a:HfI,HfI.i a≤Int.toNat n∧HfI.i a≤HfI.cap a∧
 List.length (HfI.o a)=HfI.cap a*4∧List.take (4*HfI.i a) (HfI.o a)=hfW (spN ex) (HfI.i a)→(decide (((HfI.i a:Nat):Int)<n)=true→((∃j:HgI,(HgI.k j≤48∧HgI.r j=beN (List.take (HgI.k j) (List.drop (48*Int.toNat
 ((HfI.i a:Nat):Int)) d))%21888242871839275222246405745257275088696311157297823662689037894645226208583)∧(n=n∧(Int.toNat e=Int.toNat e∧h=h)∧(HfI.i a=HfI.i a∧HfI.cap a=HfI.cap a)∧((HfI.i a:Nat):Int)=((HfI.i
 a:Nat):Int)∧0=((HgI.k j:Nat):Int))∧d=d∧HfI.o a=HfI.o a∧0=lm (HgI.r j) 0∧0=lm (HgI.r j) 1∧0=lm (HgI.r j) 2∧0=lm (HgI.r j) 3)∧∀b:HgI,HgI.k b≤48∧HgI.r b=beN (List.take (HgI.k b) (List.drop (48 *
 Int.toNat ((HfI.i a:Nat):Int)) d))%21888242871839275222246405745257275088696311157297823662689037894645226208583→(decide (((HgI.k b:Nat):Int)<48)=true→∀r,r=lm (HgI.r b) 0→∀s,s=lm (HgI.r b) 1→∀t,t=lm (HgI.r
 b) 2→∀u,u=lm (HgI.r b) 3→(((Wd r∧Wd s∧Wd t∧Wd u)∧Wd (256:Int)∧Wd (0:Int)∧Wd (0:Int)∧Wd (0:Int))∧∀k,k=lm (Int.toNat (V4 r s t u)*256 %
 21888242871839275222246405745257275088696311157297823662689037894645226208583) 0→∀m,m=lm (Int.toNat (V4 r s t u)*256%21888242871839275222246405745257275088696311157297823662689037894645226208583) 1→∀o,o=lm (Int.toNat (V4 r
 s t u)*256%21888242871839275222246405745257275088696311157297823662689037894645226208583) 2→∀p,p=lm (Int.toNat (V4 r s t u)*256%21888242871839275222246405745257275088696311157297823662689037894645226208583) 3→∀D,D=
 IntKind.wrap IntKind.i64 (48*((HfI.i a:Nat):Int))→∀v,v=IntKind.wrap IntKind.i64 (D+((HgI.k b:Nat):Int))→(0≤v∧v<((Int.toNat e:Nat):Int))∧(Int.toNat v*1+1≤d.length∧∀E:Int,E=List.getD d (Int.toNat
 v*1) (0:Int)→∀q,q=IntKind.wrap IntKind.u64 E→((((Wd k∧Wd m∧Wd o∧Wd p)∧Wd q∧Wd (0:Int)∧Wd (0:Int)∧Wd (0:Int))∧V4 k m o p<21888242871839275222246405745257275088696311157297823662689037894645226208583∧V4
 q (0:Int) (0:Int) (0:Int)<21888242871839275222246405745257275088696311157297823662689037894645226208583)∧∀F,F=lm (Int.toNat ((V4 k m o p+V4 q (0:Int) (0:Int) (0:Int)) %
 21888242871839275222246405745257275088696311157297823662689037894645226208583)) 0→∀G,G=lm (Int.toNat ((V4 k m o p+V4 q (0:Int) (0:Int) (0:Int))%21888242871839275222246405745257275088696311157297823662689037894645226208583))
 1→∀H,H=lm (Int.toNat ((V4 k m o p+V4 q (0:Int) (0:Int) (0:Int))%21888242871839275222246405745257275088696311157297823662689037894645226208583)) 2→∀I,I=lm (Int.toNat ((V4 k m o p+V4 q (0:Int) (0:Int) (0:Int)) %
 21888242871839275222246405745257275088696311157297823662689037894645226208583)) 3→∀J,J=IntKind.wrap IntKind.i64 (((HgI.k b:Nat):Int)+1)→∃i:HgI,(HgI.k i≤48∧HgI.r i=beN (List.take (HgI.k i) (List.drop (48*Int.toNat
 ((HfI.i a:Nat):Int)) d))%21888242871839275222246405745257275088696311157297823662689037894645226208583)∧((n=n∧(Int.toNat e=Int.toNat e∧h=h)∧(HfI.i a=HfI.i a∧HfI.cap a=HfI.cap a)∧((HfI.i a:Nat):Int)=((HfI.i
 a:Nat):Int)∧J=((HgI.k i:Nat):Int))∧d=d∧HfI.o a=HfI.o a∧F=lm (HgI.r i) 0∧G=lm (HgI.r i) 1∧H=lm (HgI.r i) 2∧I=lm (HgI.r i) 3)∧48-HgI.k i<48-HgI.k b))))∧(decide (((HgI.k b:Nat):Int)<48)=
 false→∀w,w=lm (HgI.r b) 0→∀x,x=lm (HgI.r b) 1→∀y,y=lm (HgI.r b) 2→∀z,z=lm (HgI.r b) 3→(((HfI.i a≤HfI.cap a∧0+HfI.cap a*4≤List.length (HfI.o a))∧Nat.le (4:Nat) (List.length [w,x,y,z])∧(HfI.i a +
 1)*32≤549755813888∧HfI.i a+1≤549755813888)∧∀(A:Nat) (B:List Int),HfI.i a+1≤A∧B.length=A*4∧List.take ((HfI.i a+1)*4) B=List.take (HfI.i a*4) (List.drop 0 (HfI.o a))++List.take 4 (List.drop 0 [w,x,y,
 z])→∀L,L=IntKind.wrap IntKind.i64 (((HfI.i a:Nat):Int)+1)→∃f:HfI,(HfI.i f≤Int.toNat n∧HfI.i f≤HfI.cap f∧List.length (HfI.o f)=HfI.cap f*4∧List.take (4*HfI.i f) (HfI.o f)=hfW (spN ex) (HfI.i f))∧((n=n
 ∧(Int.toNat e=Int.toNat e∧h=h)∧(HfI.i a+1=HfI.i f∧A=HfI.cap f)∧L=((HfI.i f:Nat):Int))∧d=d∧B=HfI.o f)∧Int.toNat n-HfI.i f<Int.toNat n-HfI.i a))))∧(decide (((HfI.i a:Nat):Int)<n)=false→K
 (.slice 593 (.lit 0) (.sym (HfI.i a)) (.sym (HfI.cap a))) (memL [(553,⟨false,.ints .u8 d⟩),(593,⟨false,.ints .u64 (HfI.o a)⟩)]))))):=by kernel_rfl
theorem vc_hfn (ex dst:List Int) (l2 c2:Nat) (n:Int) (K:SV→Mem→Prop):(execF cxHf (uHf ex n.toNat) Tryz.f7 64 [.val (.slice none 0 0),.slice 1 (.lit 0) (.sym l2) (.sym c2),.int .i64 (.sym n)] (memL [(1,⟨true,.ints .u8
 dst⟩)]) K)=(∀d,d=IntKind.wrap IntKind.i64 (48*n)→0+l2*1≤dst.length∧((List.length (List.take (l2*1) (List.drop 0 dst))=l2∧Bytes (List.take (l2*1) (List.drop 0 dst))∧l2≤65536∧0≤d∧d≤65536)∧∀(A:List
 Int) (g:Nat),Rw A (expand [] (List.take (l2*1) (List.drop 0 dst)) (Int.toNat d)) (Int.toNat d) g→∀c:List Int,c=A→((∃f:HfI,(HfI.i f≤Int.toNat n∧HfI.i f≤HfI.cap f∧List.length (HfI.o f)=HfI.cap f*4∧List.take
 (4*HfI.i f) (HfI.o f)=hfW (spN ex) (HfI.i f))∧(n=n∧(Int.toNat d=Int.toNat d∧g=g)∧(0=HfI.i f∧0=HfI.cap f)∧0=((HfI.i f:Nat):Int))∧c=c∧[]=HfI.o f)∧∀a:HfI,HfI.i a≤Int.toNat n∧HfI.i a≤HfI.cap
 a∧List.length (HfI.o a)=HfI.cap a*4∧List.take (4*HfI.i a) (HfI.o a)=hfW (spN ex) (HfI.i a)→(decide (((HfI.i a:Nat):Int)<n)=true→((∃i:HgI,(HgI.k i≤48∧HgI.r i=beN (List.take (HgI.k i) (List.drop (48 *
 Int.toNat ((HfI.i a:Nat):Int)) c))%21888242871839275222246405745257275088696311157297823662689037894645226208583)∧(n=n∧(Int.toNat d=Int.toNat d∧g=g)∧(HfI.i a=HfI.i a∧HfI.cap a=HfI.cap a)∧((HfI.i a:Nat):Int)
 =((HfI.i a:Nat):Int)∧0=((HgI.k i:Nat):Int))∧c=c∧HfI.o a=HfI.o a∧0=lm (HgI.r i) 0∧0=lm (HgI.r i) 1∧0=lm (HgI.r i) 2∧0=lm (HgI.r i) 3)∧∀b:HgI,HgI.k b≤48∧HgI.r b=beN (List.take (HgI.k b)
 (List.drop (48*Int.toNat ((HfI.i a:Nat):Int)) c))%21888242871839275222246405745257275088696311157297823662689037894645226208583→(decide (((HgI.k b:Nat):Int)<48)=true→∀p,p=lm (HgI.r b) 0→∀q,q=lm (HgI.r b) 1→∀
 r,r=lm (HgI.r b) 2→∀s,s=lm (HgI.r b) 3→(((Wd p∧Wd q∧Wd r∧Wd s)∧Wd (256:Int)∧Wd (0:Int)∧Wd (0:Int)∧Wd (0:Int))∧∀j,j=lm (Int.toNat (V4 p q r s)*256 %
 21888242871839275222246405745257275088696311157297823662689037894645226208583) 0→∀k,k=lm (Int.toNat (V4 p q r s)*256%21888242871839275222246405745257275088696311157297823662689037894645226208583) 1→∀l,l=lm (Int.toNat (V4 p
 q r s)*256%21888242871839275222246405745257275088696311157297823662689037894645226208583) 2→∀m,m=lm (Int.toNat (V4 p q r s)*256%21888242871839275222246405745257275088696311157297823662689037894645226208583) 3→∀B,B=
 IntKind.wrap IntKind.i64 (48*((HfI.i a:Nat):Int))→∀t,t=IntKind.wrap IntKind.i64 (B+((HgI.k b:Nat):Int))→(0≤t∧t<((Int.toNat d:Nat):Int))∧(Int.toNat t*1+1≤c.length∧∀C:Int,C=List.getD c (Int.toNat
 t*1) (0:Int)→∀o,o=IntKind.wrap IntKind.u64 C→((((Wd j∧Wd k∧Wd l∧Wd m)∧Wd o∧Wd (0:Int)∧Wd (0:Int)∧Wd (0:Int))∧V4 j k l m<21888242871839275222246405745257275088696311157297823662689037894645226208583∧V4
 o (0:Int) (0:Int) (0:Int)<21888242871839275222246405745257275088696311157297823662689037894645226208583)∧∀D,D=lm (Int.toNat ((V4 j k l m+V4 o (0:Int) (0:Int) (0:Int)) %
 21888242871839275222246405745257275088696311157297823662689037894645226208583)) 0→∀E,E=lm (Int.toNat ((V4 j k l m+V4 o (0:Int) (0:Int) (0:Int))%21888242871839275222246405745257275088696311157297823662689037894645226208583))
 1→∀F,F=lm (Int.toNat ((V4 j k l m+V4 o (0:Int) (0:Int) (0:Int))%21888242871839275222246405745257275088696311157297823662689037894645226208583)) 2→∀G,G=lm (Int.toNat ((V4 j k l m+V4 o (0:Int) (0:Int) (0:Int)) %
 21888242871839275222246405745257275088696311157297823662689037894645226208583)) 3→∀H,H=IntKind.wrap IntKind.i64 (((HgI.k b:Nat):Int)+1)→∃h:HgI,(HgI.k h≤48∧HgI.r h=beN (List.take (HgI.k h) (List.drop (48*Int.toNat
 ((HfI.i a:Nat):Int)) c))%21888242871839275222246405745257275088696311157297823662689037894645226208583)∧((n=n∧(Int.toNat d=Int.toNat d∧g=g)∧(HfI.i a=HfI.i a∧HfI.cap a=HfI.cap a)∧((HfI.i a:Nat):Int)=((HfI.i
 a:Nat):Int)∧H=((HgI.k h:Nat):Int))∧c=c∧HfI.o a=HfI.o a∧D=lm (HgI.r h) 0∧E=lm (HgI.r h) 1∧F=lm (HgI.r h) 2∧G=lm (HgI.r h) 3)∧48-HgI.k h<48-HgI.k b))))∧(decide (((HgI.k b:Nat):Int)<48)=
 false→∀u,u=lm (HgI.r b) 0→∀v,v=lm (HgI.r b) 1→∀w,w=lm (HgI.r b) 2→∀x,x=lm (HgI.r b) 3→(((HfI.i a≤HfI.cap a∧0+HfI.cap a*4≤List.length (HfI.o a))∧Nat.le (4:Nat) (List.length [u,v,w,x])∧(HfI.i a +
 1)*32≤549755813888∧HfI.i a+1≤549755813888)∧∀(y:Nat) (z:List Int),HfI.i a+1≤y∧z.length=y*4∧List.take ((HfI.i a+1)*4) z=List.take (HfI.i a*4) (List.drop 0 (HfI.o a))++List.take 4 (List.drop 0 [u,v,w,
 x])→∀I,I=IntKind.wrap IntKind.i64 (((HfI.i a:Nat):Int)+1)→∃e:HfI,(HfI.i e≤Int.toNat n∧HfI.i e≤HfI.cap e∧List.length (HfI.o e)=HfI.cap e*4∧List.take (4*HfI.i e) (HfI.o e)=hfW (spN ex) (HfI.i e))∧((n=n
 ∧(Int.toNat d=Int.toNat d∧g=g)∧(HfI.i a+1=HfI.i e∧y=HfI.cap e)∧I=((HfI.i e:Nat):Int))∧c=c∧z=HfI.o e)∧Int.toNat n-HfI.i e<Int.toNat n-HfI.i a))))∧(decide (((HfI.i a:Nat):Int)<n)=false→K
 (.slice 593 (.lit 0) (.sym (HfI.i a)) (.sym (HfI.cap a))) (memL [(553,⟨false,.ints .u8 c⟩),(593,⟨false,.ints .u64 (HfI.o a)⟩)]))))):=by kernel_rfl
theorem hf_walk (msg dst:List Int) (l c l2 c2:Nat) (n:Int) (K:SV→Mem→Prop) (h1:msg.length=l) (h2:dst.length=l2) (b1:Bytes msg) (b2:Bytes dst) (m1:l≤65536) (m2:l2≤65536) (n1:0≤n) (n2:n≤170) (hup:KUp K)
  (hK:∀o cap,n.toNat≤cap→o.length=cap*4→o.take (4*n.toNat)=hfW (spN (expand msg dst (n*48).toNat)) n.toNat→K (.slice 593 (.lit 0) (.sym n.toNat) (.sym cap)) (memL [(593,⟨false,.ints .u64 o⟩)])):
  execF cxHf (uHf (expand msg dst (n*48).toNat) n.toNat) Tryz.f7 64 [.slice 1 (.lit 0) (.sym l) (.sym c),.slice 9 (.lit 0) (.sym l2) (.sym c2),.int .i64 (.sym n)] (memL [(1,⟨true,.ints .u8 msg⟩),(9,⟨true,.ints .u8 dst⟩)]) K:=by
 have t1:List.take (l*1) (List.drop 0 msg)=msg:=by rw[Nat.mul_one,List.drop_zero,←h1,List.take_length]
 have t2:List.take (l2*1) (List.drop 0 dst)=dst:=by rw[Nat.mul_one,List.drop_zero,←h2,List.take_length]
 rw[vc_hf]
 intro x0 h0
 rw[wrap64 (by omega) (by omega)]at h0
 have e0:x0.toNat=(n*48).toNat:=by omega
 have e1:(n*48).toNat=48*n.toNat:=by omega
 simp only[t1,t2]
 refine ⟨⟨by omega,by omega⟩,⟨h1,h2,b1,b2,m1,m2,by omega,by omega⟩,?_⟩
 intro ys3 cap2 hrw ys1 h3
 subst h3
 rw[e0]at hrw
 have hl:=hrw.len
 have hle:=hrw.le
 have eb:∀z∈expand msg dst (n*48).toNat,0≤z∧z<256:=fun z hz=>expand_bytes _ _ _ z hz
 refine ⟨⟨⟨0,[],0⟩,⟨⟨Nat.zero_le _,Nat.le_refl _,rfl,rfl⟩,?_⟩⟩,?_⟩
 ·repeat' apply And.intro
  all_goals first | rfl | trivial
 rintro ⟨i,o,cap⟩ ⟨hi,hic,hol,ho⟩
 dsimp only at hi hic hol ho ⊢
 refine ⟨fun h=> ?_,fun h=> ?_⟩
 ·simp only[decide_eq_true_eq]at h
  have hi':i<n.toNat:=by omega
  simp only[Int.toNat_natCast]
  refine ⟨⟨⟨0,0⟩,⟨⟨Nat.zero_le _,rfl⟩,?_⟩⟩,?_⟩
  ·have z0:∀i,lm 0 i=0:=fun i=>by
    unfold lm
    simp
   simp only[z0]
   repeat' apply And.intro
   all_goals first | rfl | trivial
  rintro ⟨k,r⟩ ⟨hk,hr⟩
  dsimp only at hk hr ⊢
  have hr:r=beN ((ys1.drop (48*i)).take k)%qN:=hr
  have hrl:r<qN:=by rw[hr];exact Nat.mod_lt _ (by unfold qN;omega)
  refine ⟨fun h=> ?_,fun h=> ?_⟩
  ·simp only[decide_eq_true_eq]at h
   rintro x8 h8 x9 h9 x10 h10 x11 h11
   rw[h8,h9,h10,h11]
   refine ⟨⟨⟨lm_wd _ _,lm_wd _ _,lm_wd _ _,lm_wd _ _⟩,by unfold Wd;omega,wd0,wd0,wd0⟩,?_⟩
   rintro x12 h12 x13 h13 x14 h14 x15 h15 x16 h16 x17 h17
   rw[wrap64 (by omega) (by omega)]at h16
   rw[wrap64 (by omega) (by omega)]at h17
   have e17:x17.toNat=48*i+k:=by omega
   refine ⟨⟨by omega,by omega⟩,by omega,?_⟩
   rintro x18 h18 x19 h19
   rw[e17,Nat.mul_one]at h18
   have hb:0≤x18∧x18<256:=by
    rw[h18,hrw.getD (by omega),List.getD_eq_getElem?_getD,List.getElem?_eq_getElem (by rw[hrw.xl];omega)]
    exact eb _ (List.getElem_mem _)
   rw[wu64]at h19
   have e19:x19=x18:=by omega
   subst e19
   rw[V4_lm hrl,Int.toNat_natCast]at h12 h13 h14 h15
   have hq:r*256%21888242871839275222246405745257275088696311157297823662689037894645226208583<qN:=Nat.mod_lt _ (by decide)
   rw[h12,h13,h14,h15,V4_lm hq,V4_one]
   refine ⟨⟨⟨⟨lm_wd _ _,lm_wd _ _,lm_wd _ _,lm_wd _ _⟩,by unfold Wd;omega,wd0,wd0,wd0⟩,by unfold qN at hq;omega,by omega⟩,?_⟩
   rintro x20 h20 x21 h21 x22 h22 x23 h23 x24 h24
   rw[wrap64 (by omega) (by omega)]at h24
   have st:=hg_step (ys:=ys1) (s:=48*i) (k:=k) (by omega) hr h18 hb.1
   rw[st]at h20 h21 h22 h23
   refine ⟨⟨k+1,beN ((ys1.drop (48*i)).take (k+1))%qN⟩,⟨by simp only;omega,rfl⟩,?_⟩
   repeat' apply And.intro
   all_goals first | rfl | trivial | assumption | (simp only;omega)
  ·simp only[decide_eq_false_iff_not]at h
   have hk48:k=48:=by omega
   rintro x26 h26 x27 h27 x28 h28 x29 h29
   rw[h26,h27,h28,h29]
   refine ⟨⟨⟨hic,by omega⟩,Nat.le_refl _,by omega,by omega⟩,?_⟩
   intro cap30 ys31 ha x32 h32
   rw[wrap64 (by omega) (by omega)]at h32
   have hrf:r=spN (expand msg dst (n*48).toNat) i:=by
    rw[hr,hk48,chN_row hrw (by omega)]
    rfl
   refine ⟨⟨i+1,ys31,cap30⟩,⟨by simp only;omega,ha.1,ha.2.1,w4_drop ho hrf ha⟩,?_⟩
   repeat' apply And.intro
   all_goals first | rfl | trivial | assumption | (simp only;omega)
 ·simp only[decide_eq_false_iff_not]at h
  have hin:i=n.toNat:=by omega
  subst hin
  exact hup.le (memL_sub [553,593] rfl (by decide) (by
   intro x hx
   simp only[List.mem_cons,List.not_mem_nil,or_false]at hx ⊢
   simp[hx])) (hK o cap hic hol ho)
theorem hfn_walk (dst:List Int) (l2 c2:Nat) (n:Int) (K:SV→Mem→Prop) (h2:dst.length=l2) (b2:Bytes dst) (m2:l2≤65536) (n1:0≤n) (n2:n≤170) (hup:KUp K)
  (hK:∀o cap,n.toNat≤cap→o.length=cap*4→o.take (4*n.toNat)=hfW (spN (expand [] dst (n*48).toNat)) n.toNat→K (.slice 593 (.lit 0) (.sym n.toNat) (.sym cap)) (memL [(593,⟨false,.ints .u64 o⟩)])):
  execF cxHf (uHf (expand [] dst (n*48).toNat) n.toNat) Tryz.f7 64 [.val (.slice none 0 0),.slice 1 (.lit 0) (.sym l2) (.sym c2),.int .i64 (.sym n)] (memL [(1,⟨true,.ints .u8 dst⟩)]) K:=by
 have t2:List.take (l2*1) (List.drop 0 dst)=dst:=by rw[Nat.mul_one,List.drop_zero,←h2,List.take_length]
 rw[vc_hfn]
 intro x0 h0
 rw[wrap64 (by omega) (by omega)]at h0
 have e0:x0.toNat=(n*48).toNat:=by omega
 have e1:(n*48).toNat=48*n.toNat:=by omega
 simp only[t2]
 refine ⟨by omega,⟨h2,b2,m2,by omega,by omega⟩,?_⟩
 intro ys3 cap2 hrw ys1 h3
 subst h3
 rw[e0]at hrw
 have hl:=hrw.len
 have hle:=hrw.le
 have eb:∀z∈expand [] dst (n*48).toNat,0≤z∧z<256:=fun z hz=>expand_bytes _ _ _ z hz
 refine ⟨⟨⟨0,[],0⟩,⟨⟨Nat.zero_le _,Nat.le_refl _,rfl,rfl⟩,?_⟩⟩,?_⟩
 ·repeat' apply And.intro
  all_goals first | rfl | trivial
 rintro ⟨i,o,cap⟩ ⟨hi,hic,hol,ho⟩
 dsimp only at hi hic hol ho ⊢
 refine ⟨fun h=> ?_,fun h=> ?_⟩
 ·simp only[decide_eq_true_eq]at h
  have hi':i<n.toNat:=by omega
  simp only[Int.toNat_natCast]
  refine ⟨⟨⟨0,0⟩,⟨⟨Nat.zero_le _,rfl⟩,?_⟩⟩,?_⟩
  ·have z0:∀i,lm 0 i=0:=fun i=>by
    unfold lm
    simp
   simp only[z0]
   repeat' apply And.intro
   all_goals first | rfl | trivial
  rintro ⟨k,r⟩ ⟨hk,hr⟩
  dsimp only at hk hr ⊢
  have hr:r=beN ((ys1.drop (48*i)).take k)%qN:=hr
  have hrl:r<qN:=by rw[hr];exact Nat.mod_lt _ (by unfold qN;omega)
  refine ⟨fun h=> ?_,fun h=> ?_⟩
  ·simp only[decide_eq_true_eq]at h
   rintro x8 h8 x9 h9 x10 h10 x11 h11
   rw[h8,h9,h10,h11]
   refine ⟨⟨⟨lm_wd _ _,lm_wd _ _,lm_wd _ _,lm_wd _ _⟩,by unfold Wd;omega,wd0,wd0,wd0⟩,?_⟩
   rintro x12 h12 x13 h13 x14 h14 x15 h15 x16 h16 x17 h17
   rw[wrap64 (by omega) (by omega)]at h16
   rw[wrap64 (by omega) (by omega)]at h17
   have e17:x17.toNat=48*i+k:=by omega
   refine ⟨⟨by omega,by omega⟩,by omega,?_⟩
   rintro x18 h18 x19 h19
   rw[e17,Nat.mul_one]at h18
   have hb:0≤x18∧x18<256:=by
    rw[h18,hrw.getD (by omega),List.getD_eq_getElem?_getD,List.getElem?_eq_getElem (by rw[hrw.xl];omega)]
    exact eb _ (List.getElem_mem _)
   rw[wu64]at h19
   have e19:x19=x18:=by omega
   subst e19
   rw[V4_lm hrl,Int.toNat_natCast]at h12 h13 h14 h15
   have hq:r*256%21888242871839275222246405745257275088696311157297823662689037894645226208583<qN:=Nat.mod_lt _ (by decide)
   rw[h12,h13,h14,h15,V4_lm hq,V4_one]
   refine ⟨⟨⟨⟨lm_wd _ _,lm_wd _ _,lm_wd _ _,lm_wd _ _⟩,by unfold Wd;omega,wd0,wd0,wd0⟩,by unfold qN at hq;omega,by omega⟩,?_⟩
   rintro x20 h20 x21 h21 x22 h22 x23 h23 x24 h24
   rw[wrap64 (by omega) (by omega)]at h24
   have st:=hg_step (ys:=ys1) (s:=48*i) (k:=k) (by omega) hr h18 hb.1
   rw[st]at h20 h21 h22 h23
   refine ⟨⟨k+1,beN ((ys1.drop (48*i)).take (k+1))%qN⟩,⟨by simp only;omega,rfl⟩,?_⟩
   repeat' apply And.intro
   all_goals first | rfl | trivial | assumption | (simp only;omega)
  ·simp only[decide_eq_false_iff_not]at h
   have hk48:k=48:=by omega
   rintro x26 h26 x27 h27 x28 h28 x29 h29
   rw[h26,h27,h28,h29]
   refine ⟨⟨⟨hic,by omega⟩,Nat.le_refl _,by omega,by omega⟩,?_⟩
   intro cap30 ys31 ha x32 h32
   rw[wrap64 (by omega) (by omega)]at h32
   have hrf:r=spN (expand [] dst (n*48).toNat) i:=by
    rw[hr,hk48,chN_row hrw (by omega)]
    rfl
   refine ⟨⟨i+1,ys31,cap30⟩,⟨by simp only;omega,ha.1,ha.2.1,w4_drop ho hrf ha⟩,?_⟩
   repeat' apply And.intro
   all_goals first | rfl | trivial | assumption | (simp only;omega)
 ·simp only[decide_eq_false_iff_not]at h
  have hin:i=n.toNat:=by omega
  subst hin
  exact hup.le (memL_sub [553,593] rfl (by decide) (by
   intro x hx
   simp only[List.mem_cons,List.not_mem_nil,or_false]at hx ⊢
   simp[hx])) (hK o cap hic hol ho)
def hfK (msg dst:List Int) (n:Int) (K:SV→Mem→Prop):Prop:=
 ∀o cap,n.toNat≤cap→o.length=cap*4→o.take (4*n.toNat)=hfW (spN (expand msg dst (n*48).toNat)) n.toNat→K (.slice 593 (.lit 0) (.sym n.toNat) (.sym cap)) (memL [(593,⟨false,.ints .u64 o⟩)])
theorem hfK_live {msg dst:List Int} {n:Int} {K:SV→Mem→Prop} (h:hfK msg dst n K):∃v m,K v m:=by
 have l:=hfW_length (spN (expand msg dst (n*48).toNat)) n.toNat
 exact ⟨_,_,h _ n.toNat (Nat.le_refl _) (by rw[l,Nat.mul_comm]) (List.take_of_length_le (by omega))⟩
def gHf:G0:=fun args l K=>
 match args,l with
 | [.slice 1 (.lit 0) (.sym n1) (.sym _),.slice 9 (.lit 0) (.sym n2) (.sym _),.int .i64 (.sym n)],[(1,⟨true,.ints .u8 msg⟩),(9,⟨true,.ints .u8 dst⟩)]=>
  (msg.length=n1∧dst.length=n2∧Bytes msg∧Bytes dst∧n1≤65536∧n2≤65536∧0≤n∧n≤170)∧hfK msg dst n K
 | [.val (.slice none 0 0),.slice 1 (.lit 0) (.sym n2) (.sym _),.int .i64 (.sym n)],[(1,⟨true,.ints .u8 dst⟩)]=>
  (dst.length=n2∧Bytes dst∧n2≤65536∧0≤n∧n≤170)∧hfK [] dst n K
 | _,_=>False
theorem hf_good:Good gHf:=by
 constructor
 ·intro args l K K' hk h
  unfold gHf at h ⊢
  split at h
  ·exact ⟨h.1,fun o cap a b e=>hk _ _ (h.2 o cap a b e)⟩
  ·exact ⟨h.1,fun o cap a b e=>hk _ _ (h.2 o cap a b e)⟩
  ·exact h.elim
 ·intro args l K h
  unfold gHf at h
  split at h
  ·exact hfK_live h.2
  ·exact hfK_live h.2
  ·exact h.elim
theorem hf_ok (args:List SV) (l:List (Nat×Reg)) (K:SV→Mem→Prop) (hup:KUp K) (h:gHf args l K):∃U,execF cxHf U Tryz.f7 64 args (memL l) K:=by
 unfold gHf at h
 split at h
 ·rename_i n1 c1 n2 c2 n msg dst
  obtain ⟨⟨h1,h2,h5,h6,h7,h8,h9,h10⟩,hc⟩:=h
  exact ⟨_,hf_walk msg dst n1 c1 n2 c2 n K h1 h2 h5 h6 h7 h8 h9 h10 hup hc⟩
 ·rename_i n2 c2 n dst
  obtain ⟨⟨h2,h6,h8,h9,h10⟩,hc⟩:=h
  exact ⟨_,hfn_walk dst n2 c2 n K h2 h6 h8 h9 h10 hup hc⟩
 ·exact h.elim
def cSHf:Ef Tryz.prog:=mkNw mixed 7 Tryz.func7 (by decide) (by kernel_rfl) [] [.sl 1 true,.sl 1 true,.num] gHf hf_good hf_ok
end Go.Sx
namespace Go.Sx
open Go Go.Num
def mq (x y:Nat):Nat:=x*y%qN
def aq (x y:Nat):Nat:=(x+y)%qN
def dq (x y:Nat):Nat:=(x+(qN-y))%qN
theorem mq_lt (x y:Nat):mq x y<qN:=Nat.mod_lt _ (by decide)
theorem aq_lt (x y:Nat):aq x y<qN:=Nat.mod_lt _ (by decide)
theorem dq_lt (x y:Nat):dq x y<qN:=Nat.mod_lt _ (by decide)
theorem mq_fz (x y:Nat):fz (mq x y)=fz x*fz y:=by unfold mq;rw[fz_mod,fz_mul]
theorem aq_fz (x y:Nat):fz (aq x y)=fz x+fz y:=by unfold aq;rw[fz_mod,fz_add]
theorem dq_fz {x y:Nat} (h:y<qN):fz (dq x y)=fz x-fz y:=by unfold dq;rw[fz_mod,fz_sub (Nat.le_of_lt h)]
def jf1 (X Y:Nat) (n:Nat):Nat:=if X=0∧Y=0 then 1 else n
def jfZ (X Y:Nat):Nat:=if X=0∧Y=0 then 0 else 1
def dbD (X Y:Nat):Nat:=aq (dq (dq (mq (aq X (mq Y Y)) (aq X (mq Y Y))) (mq X X)) (mq (mq Y Y) (mq Y Y))) (dq (dq (mq (aq X (mq Y Y)) (aq X (mq Y Y))) (mq X X)) (mq (mq Y Y) (mq Y Y)))
def dbE (X:Nat):Nat:=aq (aq (mq X X) (mq X X)) (mq X X)
def dbX (X Y:Nat):Nat:=dq (mq (dbE X) (dbE X)) (aq (dbD X Y) (dbD X Y))
def db2 (x:Nat):Nat:=aq x x
def dbY (X Y:Nat):Nat:=dq (mq (dq (dbD X Y) (dbX X Y)) (dbE X)) (db2 (db2 (db2 (mq (mq Y Y) (mq Y Y)))))
def dbZ (Y Z:Nat):Nat:=db2 (mq Y Z)
def adU (X Z:Nat):Nat:=mq X (mq Z Z)
def adS (Y Z W:Nat):Nat:=mq (mq Y Z) (mq W W)
def chI (H:Nat):Nat:=mq (db2 H) (db2 H)
def chR (S1 S2:Nat):Nat:=db2 (dq S2 S1)
def chX (U1 U2 S1 S2:Nat):Nat:=dq (dq (dq (mq (chR S1 S2) (chR S1 S2)) (mq (dq U2 U1) (chI (dq U2 U1)))) (mq U1 (chI (dq U2 U1)))) (mq U1 (chI (dq U2 U1)))
def chY (U1 U2 S1 S2:Nat):Nat:=dq (mq (dq (mq U1 (chI (dq U2 U1))) (chX U1 U2 S1 S2)) (chR S1 S2)) (db2 (mq S1 (mq (dq U2 U1) (chI (dq U2 U1)))))
def chZ (U1 U2 Z1 Z2:Nat):Nat:=mq (dq (dq (mq (aq Z1 Z2) (aq Z1 Z2)) (mq Z2 Z2)) (mq Z1 Z1)) (dq U2 U1)
structure J3 where
 x:Nat
 y:Nat
 z:Nat
def jfr (X Y:Nat):J3:=⟨jf1 X Y X,jf1 X Y Y,jfZ X Y⟩
def dbl (p:J3):J3:=⟨dbX p.x p.y,dbY p.x p.y,dbZ p.y p.z⟩
def chd (p q:J3):J3:=
 ⟨chX (adU q.x p.z) (adU p.x q.z) (adS q.y p.z p.z) (adS p.y q.z q.z),chY (adU q.x p.z) (adU p.x q.z) (adS q.y p.z p.z) (adS p.y q.z q.z),chZ (adU q.x p.z) (adU p.x q.z) p.z q.z⟩
def jad (p q:J3):J3:=
 if p.z=0 then q else if q.z=0 then p else if adU q.x p.z=adU p.x q.z∧adS q.y p.z p.z=adS p.y q.z q.z then dbl p else chd p q
def jtX (p:J3):Nat:=if p.z=0 then 0 else mq p.x (mq (inv0 p.z) (inv0 p.z))
def jtY (p:J3):Nat:=if p.z=0 then 0 else mq (mq p.y (mq (inv0 p.z) (inv0 p.z))) (inv0 p.z)
def slC (X1 Y1 X2 Y2:Nat):Nat:=mq (dq Y2 Y1) (inv0 (dq X2 X1))
def slT (X1 Y1:Nat):Nat:=mq (mq 3 (mq X1 X1)) (inv0 (aq Y1 Y1))
def spX (s X1 X2:Nat):Nat:=dq (dq (mq s s) X1) X2
def spY (s X1 Y1 X2:Nat):Nat:=dq (mq s (dq X1 (spX s X1 X2))) Y1
def adX (X1 Y1 X2 Y2:Nat):Nat:=
 if X1=0∧Y1=0 then X2 else if X2=0∧Y2=0 then X1 else if X1≠X2 then spX (slC X1 Y1 X2 Y2) X1 X2 else if Y1=Y2∧Y1≠0 then spX (slT X1 Y1) X1 X2 else 0
def adY (X1 Y1 X2 Y2:Nat):Nat:=
 if X1=0∧Y1=0 then Y2 else if X2=0∧Y2=0 then Y1 else if X1≠X2 then spY (slC X1 Y1 X2 Y2) X1 Y1 X2 else if Y1=Y2∧Y1≠0 then spY (slT X1 Y1) X1 Y1 X2 else 0
theorem mq_one {x:Nat} (h:x<qN):mq x 1=x:=by unfold mq;rw[Nat.mul_one,Nat.mod_eq_of_lt h]
theorem mq11:mq 1 1=1:=by decide
theorem inv01:inv0 1=1:=(inv0_unique (by decide) (by decide)).symm
theorem mq_zero (x:Nat):mq x 0=0:=by unfold mq;rw[Nat.mul_zero,Nat.zero_mod]
theorem dq_self {x:Nat} (h:x<qN):dq x x=0:=by
 unfold dq
 rw[Nat.add_sub_cancel' (Nat.le_of_lt h),Nat.mod_self]
theorem nfz {a b:Nat} (ha:a<qN) (hb:b<qN) (h:fz a=fz b):a=b:=by
 have:=fz_eq.1 h
 rwa [Nat.mod_eq_of_lt ha,Nat.mod_eq_of_lt hb]at this
theorem fz0:fz 0=0:=rfl
theorem fz1:fz 1=1:=rfl
theorem inv_fz {a:Nat} (ha:a<qN) (h:a≠0):fz (inv0 a)*fz a=1:=by
 rw[←fz_mul,←fz1,fz_eq]
 rw[inv0_mul (by rw[Nat.mod_eq_of_lt ha];exact h)]
 decide
theorem two_fz:∃t:Fin qN,t*2=1:=⟨fz (inv0 2),by
 show fz (inv0 2)*fz 2=fz 1
 rw[←fz_mul,fz_eq]
 decide +kernel⟩
theorem ch_eq {x0 y0 x1 y1 i j:Fin qN} (hi:i*(2*(x1-x0))=1) (hj:j*(x1-x0)=1):i*2=j:=by
 grobner
theorem spX_lt (s a b:Nat):spX s a b<qN:=dq_lt _ _
theorem spY_lt (s a b c:Nat):spY s a b c<qN:=dq_lt _ _
theorem chd_z {X0 X1:Nat}:fz (chZ X0 X1 1 1)=2*fz (dq X1 X0):=by
 unfold chZ
 rw[mq_fz,dq_fz (mq_lt _ _),dq_fz (mq_lt _ _),mq_fz,aq_fz,mq_fz,fz1]
 generalize fz (dq X1 X0)=H
 grobner
theorem db2_fz (x:Nat):fz (db2 x)=2*fz x:=by
 unfold db2
 rw[aq_fz]
 generalize fz x=X
 grobner
theorem db2_lt (x:Nat):db2 x<qN:=aq_lt _ _
theorem fz3:fz 3=3:=rfl
theorem chX_fz {X0 Y0 X1 Y1:Nat} (h0:X0<qN) (k0:Y0<qN):fz (chX X0 X1 Y0 Y1)=4*(fz Y1-fz Y0)*(fz Y1-fz Y0)-4*(fz X1-fz X0)*(fz X1-fz X0)*(fz X1-fz X0)-8*fz X0*(fz X1-fz X0)*(fz X1-fz X0):=by
 unfold chX chI chR
 rw[dq_fz (mq_lt _ _),dq_fz (mq_lt _ _),dq_fz (mq_lt _ _)]
 simp only[mq_fz,db2_fz]
 rw[dq_fz h0,dq_fz k0]
 generalize fz X0=a
 generalize fz X1=b
 generalize fz Y0=c
 generalize fz Y1=d
 grobner
theorem chX_lt (a b c d:Nat):chX a b c d<qN:=dq_lt _ _
theorem chY_fz {X0 Y0 X1 Y1:Nat} (h0:X0<qN) (k0:Y0<qN):fz (chY X0 X1 Y0 Y1)=(4*fz X0*(fz X1-fz X0)*(fz X1-fz X0)-fz (chX X0 X1 Y0 Y1))*(2*(fz Y1-fz Y0))-8*fz Y0*(fz X1-fz X0)*(fz X1-fz X0)*(fz X1-fz X0):=by
 unfold chY
 rw[dq_fz (db2_lt _),mq_fz,dq_fz (chX_lt _ _ _ _),db2_fz]
 generalize chX X0 X1 Y0 Y1=X
 unfold chI chR
 simp only[mq_fz,db2_fz]
 rw[dq_fz h0,dq_fz k0]
 generalize fz X0=a
 generalize fz X1=b
 generalize fz Y0=c
 generalize fz Y1=d
 generalize fz X=e
 grobner
theorem ch_fin {a b c d i j X:Fin qN} (hi:i*(2*(b-a))=1) (hj:j*(b-a)=1)
  (hX:X=4*(d-c)*(d-c)-4*(b-a)*(b-a)*(b-a)-8*a*(b-a)*(b-a)):
  X*(i*i)=(d-c)*j*((d-c)*j)-a-b:=by
 have e:i*2=j:=by grobner
 have e2:b=a+(b-a):=by grobner
 generalize b-a=H at *
 subst hX
 subst e2
 grobner
theorem ch_fin2 {a b c d i j X:Fin qN} (hi:i*(2*(b-a))=1) (hj:j*(b-a)=1):
  ((4*a*(b-a)*(b-a)-X)*(2*(d-c))-8*c*(b-a)*(b-a)*(b-a))*(i*i)*i=(d-c)*j*(a-X*(i*i))-c:=by
 have e:i*2=j:=by grobner
 generalize b-a=H at *
 have e3:i*H*2=1:=by grobner
 generalize d-c=D at *
 have e4:(4*a*H*H)*(2*D)*(i*i)*i=D*j*a:=by grobner
 have e5:8*c*H*H*H*(i*i)*i=c:=by grobner
 have e6:X*(2*D)*(i*i)*i=D*j*(X*(i*i)):=by grobner
 grobner
theorem dbX_fz {X Y:Nat}:fz (dbX X Y)=9*(fz X*fz X*fz X*fz X)-8*fz X*(fz Y*fz Y):=by
 unfold dbX dbD dbE
 rw[dq_fz (aq_lt _ _)]
 simp only[mq_fz,aq_fz]
 rw[dq_fz (mq_lt _ _),dq_fz (mq_lt _ _)]
 simp only[mq_fz,aq_fz]
 generalize fz X=x
 generalize fz Y=y
 grobner
theorem dbX_lt (a b:Nat):dbX a b<qN:=dq_lt _ _
theorem dbY_fz {X Y:Nat}:fz (dbY X Y)=(4*fz X*(fz Y*fz Y)-fz (dbX X Y))*(3*(fz X*fz X))-8*(fz Y*fz Y)*(fz Y*fz Y):=by
 unfold dbY
 rw[dq_fz (db2_lt _),mq_fz,dq_fz (dbX_lt _ _)]
 simp only[db2_fz]
 generalize dbX X Y=R
 unfold dbD dbE
 simp only[mq_fz,aq_fz]
 rw[dq_fz (mq_lt _ _),dq_fz (mq_lt _ _)]
 simp only[mq_fz,aq_fz]
 generalize fz X=x
 generalize fz Y=y
 generalize fz R=r
 grobner
theorem db_fin {x y i j X:Fin qN} (hi:i*(2*y)=1) (hj:j*(2*y)=1) (hX:X=9*(x*x*x*x)-8*x*(y*y)):
  X*(i*i)=3*(x*x)*j*(3*(x*x)*j)-x-x:=by
 have e:i=j:=by grobner
 subst e
 subst hX
 grobner
theorem db_fin2 {x y i j X:Fin qN} (hi:i*(2*y)=1) (hj:j*(2*y)=1):
  ((4*x*(y*y)-X)*(3*(x*x))-8*(y*y)*(y*y))*(i*i)*i=3*(x*x)*j*(x-X*(i*i))-y:=by
 have e:i=j:=by grobner
 subst e
 have e4:(4*x*(y*y))*(3*(x*x))*(i*i)*i=3*(x*x)*i*x:=by grobner
 have e5:8*(y*y)*(y*y)*(i*i)*i=y:=by grobner
 have e6:X*(3*(x*x))*(i*i)*i=3*(x*x)*i*(X*(i*i)):=by grobner
 grobner
theorem dbl_z {y:Nat}:fz (aq y y)=2*fz y:=db2_fz y
theorem two_ne {a:Nat} (ha:a<qN) (h:fz a=2*fz 0):a=0:=nfz ha (by decide) (by rw[h,fz0];grobner)
theorem ne_two {y:Nat} (hy:y<qN) (h:y≠0):db2 y≠0:=by
 intro e
 obtain ⟨t,ht⟩:=two_fz
 have k:fz (db2 y)=fz 0:=by rw[e]
 rw[db2_fz]at k
 refine h (nfz hy (by decide) ?_)
 rw[fz0]at k ⊢
 generalize fz y=Y at *
 have e1:t*2*Y=Y:=by rw[ht];grobner
 have e2:t*(2*Y)=0:=by rw[k];grobner
 grobner
theorem dq_ne {a b:Nat} (ha:a<qN) (hb:b<qN) (h:a≠b):dq b a≠0:=by
 intro e
 have k:fz (dq b a)=fz 0:=by rw[e]
 rw[dq_fz ha]at k
 refine h (nfz ha hb ?_)
 rw[fz0]at k
 generalize fz a=A at *
 generalize fz b=B at *
 grobner
theorem adU1 {X:Nat} (h:X<qN):adU X 1=X:=by unfold adU;rw[mq11,mq_one h]
theorem adS1 {X:Nat} (h:X<qN):adS X 1 1=X:=by unfold adS;rw[mq11,mq_one h,mq_one h]
theorem jt_one {x y:Nat} (hx:x<qN) (hy:y<qN):jtX ⟨x,y,1⟩=x∧jtY ⟨x,y,1⟩=y:=by
 unfold jtX jtY
 simp only
 rw[if_neg (by decide),if_neg (by decide),inv01,mq11,mq_one hx,mq_one hy,mq_one hy]
 exact ⟨rfl,rfl⟩
theorem jt_zero {p:J3} (h:p.z=0):jtX p=0∧jtY p=0:=by
 unfold jtX jtY
 rw[if_pos h,if_pos h]
 exact ⟨rfl,rfl⟩
theorem chd_ne {X0 Y0 X1 Y1:Nat} (a:X0<qN) (b:Y0<qN) (c:X1<qN) (d:Y1<qN) (h:X0≠X1):
  jtX (chd ⟨X1,Y1,1⟩ ⟨X0,Y0,1⟩)=spX (slC X0 Y0 X1 Y1) X0 X1∧jtY (chd ⟨X1,Y1,1⟩ ⟨X0,Y0,1⟩)=spY (slC X0 Y0 X1 Y1) X0 Y0 X1:=by
 unfold chd jtX jtY
 simp only
 rw[adU1 a,adU1 c,adS1 b,adS1 d]
 have hz:fz (chZ X0 X1 1 1)=2*fz (dq X1 X0):=chd_z
 have hne:=dq_ne a c h
 have hH:chZ X0 X1 1 1≠0:=by
  intro e
  have k:fz (db2 (dq X1 X0))=fz 0:=by rw[db2_fz,←hz,e]
  exact ne_two (dq_lt _ _) hne (nfz (aq_lt _ _) (by decide) k)
 have hl:chZ X0 X1 1 1<qN:=mq_lt _ _
 have hi:=inv_fz hl hH
 have hj:=inv_fz (dq_lt X1 X0) hne
 rw[if_neg hH,if_neg hH]
 rw[hz,dq_fz a]at hi
 rw[dq_fz a]at hj
 have ex:fz (mq (chX X0 X1 Y0 Y1) (mq (inv0 (chZ X0 X1 1 1)) (inv0 (chZ X0 X1 1 1))))=fz (spX (slC X0 Y0 X1 Y1) X0 X1):=by
  unfold spX slC
  rw[dq_fz c,dq_fz a]
  simp only[mq_fz]
  rw[dq_fz b]
  exact ch_fin hi hj (chX_fz a b)
 refine ⟨nfz (mq_lt _ _) (spX_lt _ _ _) ex,nfz (mq_lt _ _) (spY_lt _ _ _ _) ?_⟩
 unfold spY
 rw[dq_fz b,mq_fz (slC X0 Y0 X1 Y1),dq_fz (spX_lt _ _ _),←ex]
 unfold slC
 simp only[mq_fz]
 rw[dq_fz b,chY_fz a b]
 exact ch_fin2 hi hj
theorem chd_eq {X Y0 Y1:Nat} (a:X<qN):(chd ⟨X,Y1,1⟩ ⟨X,Y0,1⟩).z=0:=by
 unfold chd
 simp only
 unfold chZ
 rw[dq_self (show adU X 1<qN from mq_lt _ _),mq_zero]
theorem dbl_tan {X Y:Nat} (a:X<qN) (b:Y<qN) (h:Y≠0):jtX (dbl ⟨X,Y,1⟩)=spX (slT X Y) X X∧jtY (dbl ⟨X,Y,1⟩)=spY (slT X Y) X Y X:=by
 unfold dbl jtX jtY
 simp only
 have hz:dbZ Y 1=db2 Y:=by unfold dbZ;rw[mq_one b]
 rw[hz,if_neg (ne_two b h),if_neg (ne_two b h)]
 have hi:=inv_fz (show db2 Y<qN from aq_lt _ _) (ne_two b h)
 have hj:fz (inv0 (aq Y Y))*(2*fz Y)=1:=by rw[←db2_fz];exact hi
 rw[db2_fz]at hi
 have ex:fz (mq (dbX X Y) (mq (inv0 (db2 Y)) (inv0 (db2 Y))))=fz (spX (slT X Y) X X):=by
  unfold spX slT
  rw[dq_fz a,dq_fz a]
  simp only[mq_fz,fz3]
  exact db_fin hi hj dbX_fz
 refine ⟨nfz (mq_lt _ _) (spX_lt _ _ _) ex,nfz (mq_lt _ _) (spY_lt _ _ _ _) ?_⟩
 unfold spY
 rw[dq_fz b,mq_fz (slT X Y),dq_fz (spX_lt _ _ _),←ex]
 unfold slT
 simp only[mq_fz,fz3]
 rw[dbY_fz]
 exact db_fin2 hi hj
theorem sum_eq {X0 Y0 X1 Y1:Nat} (a:X0<qN) (b:Y0<qN) (c:X1<qN) (d:Y1<qN):
  jtX (jad (jfr X1 Y1) (jfr X0 Y0))=adX X0 Y0 X1 Y1∧jtY (jad (jfr X1 Y1) (jfr X0 Y0))=adY X0 Y0 X1 Y1:=by
 have fin:∀ {X Y:Nat},¬(X=0∧Y=0)→jfr X Y=⟨X,Y,1⟩:=fun h=>by unfold jfr jf1 jfZ;rw[if_neg h,if_neg h,if_neg h]
 have inf:∀ {X Y:Nat},X=0∧Y=0→jfr X Y=⟨1,1,0⟩:=fun h=>by unfold jfr jf1 jfZ;rw[if_pos h,if_pos h,if_pos h]
 unfold adX adY
 by_cases h0:X0=0∧Y0=0
 ·rw[if_pos h0,if_pos h0,inf h0]
  by_cases h1:X1=0∧Y1=0
  ·rw[inf h1]
   unfold jad
   rw[if_pos rfl,h1.1,h1.2]
   exact jt_zero rfl
  ·rw[fin h1]
   unfold jad
   rw[if_neg (by simp only;decide),if_pos rfl]
   exact jt_one c d
 ·rw[if_neg h0,if_neg h0,fin h0]
  by_cases h1:X1=0∧Y1=0
  ·rw[if_pos h1,if_pos h1,inf h1]
   unfold jad
   rw[if_pos rfl]
   exact jt_one a b
  ·rw[if_neg h1,if_neg h1,fin h1]
   unfold jad
   rw[if_neg (by simp only;decide),if_neg (by simp only;decide)]
   simp only
   rw[adU1 a,adU1 c,adS1 b,adS1 d]
   by_cases hx:X0=X1
   ·subst hx
    have n0:¬(X0≠X0):=fun h=>h rfl
    rw[if_neg n0,if_neg n0]
    by_cases hy:Y0=Y1
    ·subst hy
     have p0:X0=X0∧Y0=Y0:=⟨rfl,rfl⟩
     rw[if_pos p0]
     by_cases hz:Y0=0
     ·have n1:¬(Y0=Y0∧Y0≠0):=fun h=>h.2 hz
      rw[if_neg n1,if_neg n1]
      refine jt_zero ?_
      unfold dbl dbZ
      simp only
      rw[mq_one b,hz]
      rfl
     ·have p1:Y0=Y0∧Y0≠0:=⟨rfl,hz⟩
      rw[if_pos p1,if_pos p1]
      exact dbl_tan a b hz
    ·have n1:¬(Y0=Y1∧Y0≠0):=fun h=>hy h.1
     have n2:¬(X0=X0∧Y0=Y1):=fun h=>hy h.2
     rw[if_neg n1,if_neg n1,if_neg n2]
     exact jt_zero (chd_eq a)
   ·have n2:¬(X0=X1∧Y0=Y1):=fun h=>hx h.1
    rw[if_neg n2,if_pos hx,if_pos hx]
    exact chd_ne a b c d hx
end Go.Sx
namespace Go.Sx
open Go Go.Proofs Go.Num
set_option maxRecDepth 100000
theorem vc_Db0 (z0 z1 z2 z3 a0 a1 a2 a3:Int) (K:SV→Mem→Prop):execF cxAdd u0 Tryz.f72 64 [.ptr 1 (.lit 0),.ptr 9 (.lit 0)] (memL [(1,⟨false,w4 z0 z1 z2 z3⟩),(9,⟨true,w4 a0 a1 a2 a3⟩)]) K=
 AddP a0 a1 a2 a3 a0 a1 a2 a3 fun y0 y1 y2 y3=>K (.ptr 1 (.lit 0)) (memL [(1,⟨false,w4 y0 y1 y2 y3⟩),(9,⟨true,w4 a0 a1 a2 a3⟩)]):=by kernel_rfl
theorem vc_Db1 (z0 z1 z2 z3:Int) (K:SV→Mem→Prop):execF cxAdd u0 Tryz.f72 64 [.ptr 1 (.lit 0),.ptr 1 (.lit 0)] (memL [(1,⟨false,w4 z0 z1 z2 z3⟩)]) K=
 AddP z0 z1 z2 z3 z0 z1 z2 z3 fun y0 y1 y2 y3=>K (.ptr 1 (.lit 0)) (memL [(1,⟨false,w4 y0 y1 y2 y3⟩)]):=by kernel_rfl
def gDb:G0:=fun args l K=>
 match args,l with
 | [.ptr 1 (.lit 0),.ptr 9 (.lit 0)],[(1,⟨false,.cells [.int .u64 (.sym z0),.int .u64 (.sym z1),.int .u64 (.sym z2),.int .u64 (.sym z3)]⟩),(9,⟨true,.cells [.int .u64 (.sym a0),.int .u64 (.sym a1),.int .u64 (.sym a2),.int .u64 (.sym a3)]⟩)]=>addC a0 a1 a2 a3 a0 a1 a2 a3 fun y0 y1 y2 y3=>K (.ptr 1 (.lit 0)) (memL [(1,⟨false,w4 y0 y1 y2 y3⟩),(9,⟨true,w4 a0 a1 a2 a3⟩)])
 | [.ptr 1 (.lit 0),.ptr 1 (.lit 0)],[(1,⟨false,.cells [.int .u64 (.sym z0),.int .u64 (.sym z1),.int .u64 (.sym z2),.int .u64 (.sym z3)]⟩)]=>addC z0 z1 z2 z3 z0 z1 z2 z3 fun y0 y1 y2 y3=>K (.ptr 1 (.lit 0)) (memL [(1,⟨false,w4 y0 y1 y2 y3⟩)])
 | _,_=>False
theorem Db_good:Good gDb:=by
 constructor
 ·intro args l K K' hk h
  unfold gDb at h ⊢
  split at h
  ·exact addC_mono (fun _ _ _ _=>hk _ _) h
  ·exact addC_mono (fun _ _ _ _=>hk _ _) h
  ·exact h.elim
 ·intro args l K h
  unfold gDb at h
  split at h
  ·obtain ⟨_,_,_,_,h⟩:=addC_live h
   exact ⟨_,_,h⟩
  ·obtain ⟨_,_,_,_,h⟩:=addC_live h
   exact ⟨_,_,h⟩
  ·exact h.elim
theorem Db_ok (args:List SV) (l:List (Nat×Reg)) (K:SV→Mem→Prop) (hK:KUp K) (h:gDb args l K):∃U,execF cxAdd U Tryz.f72 64 args (memL l) K:=by
 unfold gDb at h
 split at h
 ·rename_i z0 z1 z2 z3 a0 a1 a2 a3
  refine ⟨u0,?_⟩
  have:=vc_Db0 z0 z1 z2 z3 a0 a1 a2 a3 K
  unfold w4 at this
  rw[this]
  exact addC_of h
 ·rename_i z0 z1 z2 z3
  refine ⟨u0,?_⟩
  have:=vc_Db1 z0 z1 z2 z3 K
  unfold w4 at this
  rw[this]
  exact addC_of h
 ·exact h.elim
def kDb:Ef Tryz.prog:=mkE mixed 72 Tryz.func72 (by decide) (by kernel_rfl) [] [.ptr 4 false,.ptr 4 true] gDb Db_good Db_ok
@[reducible] def w8 (x0 x1 x2 x3 x4 x5 x6 x7 : Int) : Ct := .cells [.int .u64 (.sym x0), .int .u64 (.sym x1), .int .u64 (.sym x2), .int .u64 (.sym x3), .int .u64 (.sym x4), .int .u64 (.sym x5), .int .u64 (.sym x6), .int .u64 (.sym x7)]
def c8 (c:Ct) (K:Int→Int→Int→Int→Int→Int→Int→Int→Prop):Prop:=
 match c with
 | .cells [.int .u64 (.sym x0),.int .u64 (.sym x1),.int .u64 (.sym x2),.int .u64 (.sym x3),.int .u64 (.sym x4),.int .u64 (.sym x5),.int .u64 (.sym x6),.int .u64 (.sym x7)]=>K x0 x1 x2 x3 x4 x5 x6 x7
 | _=>False
theorem c8_mono {c:Ct} {K K':Int→Int→Int→Int→Int→Int→Int→Int→Prop} (hk:∀x0 x1 x2 x3 x4 x5 x6 x7,K x0 x1 x2 x3 x4 x5 x6 x7→K' x0 x1 x2 x3 x4 x5 x6 x7) (h:c8 c K):c8 c K':=by
 unfold c8 at h ⊢
 split at h
 ·exact hk _ _ _ _ _ _ _ _ h
 ·exact h.elim
theorem c8_ex {c:Ct} {K:Int→Int→Int→Int→Int→Int→Int→Int→Prop} (h:c8 c K):∃x0 x1 x2 x3 x4 x5 x6 x7,c=w8 x0 x1 x2 x3 x4 x5 x6 x7∧K x0 x1 x2 x3 x4 x5 x6 x7:=by
 unfold c8 at h
 split at h
 ·exact ⟨_,_,_,_,_,_,_,_,rfl,h⟩
 ·exact h.elim
@[reducible] def w12 (x0 x1 x2 x3 x4 x5 x6 x7 x8 x9 x10 x11 : Int) : Ct := .cells [.int .u64 (.sym x0), .int .u64 (.sym x1), .int .u64 (.sym x2), .int .u64 (.sym x3), .int .u64 (.sym x4), .int .u64 (.sym x5), .int .u64 (.sym x6), .int .u64 (.sym x7), .int .u64 (.sym x8), .int .u64 (.sym x9), .int .u64 (.sym x10), .int .u64 (.sym x11)]
def c12 (c:Ct) (K:Int→Int→Int→Int→Int→Int→Int→Int→Int→Int→Int→Int→Prop):Prop:=
 match c with
 | .cells [.int .u64 (.sym x0),.int .u64 (.sym x1),.int .u64 (.sym x2),.int .u64 (.sym x3),.int .u64 (.sym x4),.int .u64 (.sym x5),.int .u64 (.sym x6),.int .u64 (.sym x7),.int .u64 (.sym x8),.int .u64 (.sym x9),.int .u64 (.sym x10),.int .u64 (.sym x11)]=>K x0 x1 x2 x3 x4 x5 x6 x7 x8 x9 x10 x11
 | _=>False
theorem c12_mono {c:Ct} {K K':Int→Int→Int→Int→Int→Int→Int→Int→Int→Int→Int→Int→Prop} (hk:∀x0 x1 x2 x3 x4 x5 x6 x7 x8 x9 x10 x11,K x0 x1 x2 x3 x4 x5 x6 x7 x8 x9 x10 x11→K' x0 x1 x2 x3 x4 x5 x6 x7 x8 x9 x10 x11) (h:c12 c K):c12 c K':=by
 unfold c12 at h ⊢
 split at h
 ·exact hk _ _ _ _ _ _ _ _ _ _ _ _ h
 ·exact h.elim
theorem c12_ex {c:Ct} {K:Int→Int→Int→Int→Int→Int→Int→Int→Int→Int→Int→Int→Prop} (h:c12 c K):∃x0 x1 x2 x3 x4 x5 x6 x7 x8 x9 x10 x11,c=w12 x0 x1 x2 x3 x4 x5 x6 x7 x8 x9 x10 x11∧K x0 x1 x2 x3 x4 x5 x6 x7 x8 x9 x10 x11:=by
 unfold c12 at h
 split at h
 ·exact ⟨_,_,_,_,_,_,_,_,_,_,_,_,rfl,h⟩
 ·exact h.elim
structure Jp (j0 j1 j2 j3 j4 j5 j6 j7 j8 j9 j10 j11:Int) (p:J3):Prop where
 x:El j0 j1 j2 j3 (mont p.x)
 y:El j4 j5 j6 j7 (mont p.y)
 z:El j8 j9 j10 j11 (mont p.z)
 lx:p.x<qN
 ly:p.y<qN
 lz:p.z<qN
theorem Jp.ex {p:J3} (lx:p.x<qN) (ly:p.y<qN) (lz:p.z<qN):∃j0 j1 j2 j3 j4 j5 j6 j7 j8 j9 j10 j11,Jp j0 j1 j2 j3 j4 j5 j6 j7 j8 j9 j10 j11 p:=
 ⟨_,_,_,_,_,_,_,_,_,_,_,_,El.of (mont_lt _),El.of (mont_lt _),El.of (mont_lt _),lx,ly,lz⟩
theorem jf1_lt {X Y n:Nat} (h:n<qN):jf1 X Y n<qN:=by
 unfold jf1
 split
 ·decide
 ·exact h
theorem jfZ_lt (X Y:Nat):jfZ X Y<qN:=by
 unfold jfZ
 split<;>decide
theorem jad_lt {p q:J3} (a:p.x<qN∧p.y<qN∧p.z<qN) (b:q.x<qN∧q.y<qN∧q.z<qN):(jad p q).x<qN∧(jad p q).y<qN∧(jad p q).z<qN:=by
 unfold jad
 split
 ·exact b
 ·split
  ·exact a
  ·split
   ·exact ⟨dq_lt _ _,dq_lt _ _,aq_lt _ _⟩
   ·exact ⟨dq_lt _ _,dq_lt _ _,mq_lt _ _⟩
theorem jtX_lt (p:J3):jtX p<qN:=by
 unfold jtX
 split
 ·decide
 ·exact mq_lt _ _
theorem jtY_lt (p:J3):jtY p<qN:=by
 unfold jtY
 split
 ·decide
 ·exact mq_lt _ _
theorem mont_z {x:Nat} (h:x<qN):mont x=0↔x=0:=by
 constructor
 ·intro e
  have:=mont_back x
  rw[e,mmul_zero,Nat.mod_eq_of_lt h]at this
  exact this.symm
 ·rintro rfl
  exact mont_zero
theorem mont_q {x y:Nat} (h:x<qN) (h':y<qN):mont x=mont y↔x=y:=by
 constructor
 ·intro e
  have:=mont_inj e
  rwa [Nat.mod_eq_of_lt h,Nat.mod_eq_of_lt h']at this
 ·rintro rfl
  rfl
def r8 (c:Ct) (f:Int→Int→Int→Int→Int→Int→Int→Int→Option (Ob×SV)):Option (Ob×SV):=
 match c with
 | .cells [.int .u64 (.sym x0),.int .u64 (.sym x1),.int .u64 (.sym x2),.int .u64 (.sym x3),.int .u64 (.sym x4),.int .u64 (.sym x5),.int .u64 (.sym x6),.int .u64 (.sym x7)]=>f x0 x1 x2 x3 x4 x5 x6 x7
 | _=>none
theorem r8_ex {c:Ct} {f:Int→Int→Int→Int→Int→Int→Int→Int→Option (Ob×SV)} {x:Ob×SV} (h:r8 c f=some x):∃x0 x1 x2 x3 x4 x5 x6 x7,c=w8 x0 x1 x2 x3 x4 x5 x6 x7∧f x0 x1 x2 x3 x4 x5 x6 x7=some x:=by
 unfold r8 at h
 split at h
 ·exact ⟨_,_,_,_,_,_,_,_,rfl,h⟩
 ·cases h
def cxInf:Cx Tryz.prog:= { rds:= [cIz],efs:= [],eqs:= [] }
theorem vc_inf (x0 x1 x2 x3 x4 x5 x6 x7:Int) (P:SV→Prop):(execF cxInf u9 Tryz.f65 64 [.ptr 1 (.lit 0)] (memL [(1,⟨true,w8 x0 x1 x2 x3 x4 x5 x6 x7⟩)]) fun v _=>P v)=
 (W4 x0 x1 x2 x3∧(decide (V4 x0 x1 x2 x3=0)=true→W4 x4 x5 x6 x7∧P (.bool (.sym (decide (V4 x4 x5 x6 x7=0)))))∧(decide (V4 x0 x1 x2 x3=0)=false→P (.bool (.lit false)))):=by kernel_rfl
def rInf:R0:=fun args l=>
 match args,l with
 | [.ptr 1 (.lit 0)],[(1,⟨true,x⟩)]=>r8 x fun x0 x1 x2 x3 x4 x5 x6 x7=>some (some (W4 x0 x1 x2 x3∧W4 x4 x5 x6 x7),.bool (.sym (decide (V4 x0 x1 x2 x3=0∧V4 x4 x5 x6 x7=0))))
 | _,_=>none
theorem inf_ok (args:List SV) (l:List (Nat×Reg)) (p:Ob) (v:SV) (h:rInf args l=some (p,v)) (hp:p.ok):∃U,execF cxInf U Tryz.f65 64 args (memL l) fun v' _=>∀β u,Den β v' u→Den β v u:=by
 unfold rInf at h
 split at h
 ·obtain ⟨x0,x1,x2,x3,x4,x5,x6,x7,rfl,q⟩:=r8_ex h
  simp only[Option.some.injEq,Prod.mk.injEq]at q
  obtain ⟨rfl,rfl⟩:=q
  obtain ⟨ha,hb⟩:W4 x0 x1 x2 x3∧W4 x4 x5 x6 x7:=hp
  refine ⟨u9,?_⟩
  rw[vc_inf x0 x1 x2 x3 x4 x5 x6 x7 fun v'=>∀β u,Den β v' u→Den β (.bool (.sym (decide (V4 x0 x1 x2 x3=0∧V4 x4 x5 x6 x7=0)))) u]
  refine ⟨ha,fun h=>⟨hb,den_bool ?_⟩,fun h=>den_bool ?_⟩
  ·have h:V4 x0 x1 x2 x3=0:=by simpa using h
   show decide _=decide _
   simp[h]
  ·have h:¬V4 x0 x1 x2 x3=0:=by simpa using h
   show false=decide _
   simp[h]
 ·cases h
def cInf:Rd Tryz.prog:=mkQ mixed 65 Tryz.func65 (by decide) (by kernel_rfl) [] [.ptr 8 true] rInf inf_ok
def cxJs:Cx Tryz.prog:= { rds:= [],efs:= [],eqs:= [] }
theorem vc_js (p0 p1 p2 p3 p4 p5 p6 p7 p8 p9 p10 p11 q0 q1 q2 q3 q4 q5 q6 q7 q8 q9 q10 q11:Int) (K:SV→Mem→Prop):(execF cxJs u9 Tryz.f69 64 [.ptr 1 (.lit 0),.ptr 9 (.lit 0)] (memL [(1,⟨false,w12 p0 p1 p2 p3 p4 p5 p6 p7 p8 p9 p10 p11⟩),(9,⟨true,w12 q0 q1 q2 q3 q4 q5 q6 q7 q8 q9 q10 q11⟩)]) K)=
 (∀x0,x0=q0→∀x1,x1=q1→∀x2,x2=q2→∀x3,x3=q3→∀x4,x4=q4→∀x5,x5=q5→∀x6,x6=q6→∀x7,x7=q7→∀x8,x8=q8→∀x9,x9=q9→∀x10,x10=q10→∀x11,x11=q11→
  K (.ptr 1 (.lit 0)) (memL [(1,⟨false,w12 x0 x1 x2 x3 x4 x5 x6 x7 x8 x9 x10 x11⟩),(9,⟨true,w12 q0 q1 q2 q3 q4 q5 q6 q7 q8 q9 q10 q11⟩)])):=by kernel_rfl
def gJs:G0:=fun args l K=>
 match args,l with
 | [.ptr 1 (.lit 0),.ptr 9 (.lit 0)],[(1,⟨false,z⟩),(9,⟨true,q⟩)]=>c12 z fun _ _ _ _ _ _ _ _ _ _ _ _=>c12 q fun q0 q1 q2 q3 q4 q5 q6 q7 q8 q9 q10 q11=>K (.ptr 1 (.lit 0)) (memL [(1,⟨false,w12 q0 q1 q2 q3 q4 q5 q6 q7 q8 q9 q10 q11⟩),(9,⟨true,w12 q0 q1 q2 q3 q4 q5 q6 q7 q8 q9 q10 q11⟩)])
 | _,_=>False
theorem js_good:Good gJs:=by
 constructor
 ·intro args l K K' hk h
  unfold gJs at h ⊢
  split at h
  ·exact c12_mono (fun _ _ _ _ _ _ _ _ _ _ _ _ h=>c12_mono (fun _ _ _ _ _ _ _ _ _ _ _ _ h=>hk _ _ h) h) h
  ·exact h.elim
 ·intro args l K h
  unfold gJs at h
  split at h
  ·obtain ⟨_,_,_,_,_,_,_,_,_,_,_,_,_,h⟩:=c12_ex h
   obtain ⟨_,_,_,_,_,_,_,_,_,_,_,_,_,h⟩:=c12_ex h
   exact ⟨_,_,h⟩
  ·exact h.elim
theorem js_ok (args:List SV) (l:List (Nat×Reg)) (K:SV→Mem→Prop) (hup:KUp K) (h:gJs args l K):∃U,execF cxJs U Tryz.f69 64 args (memL l) K:=by
 unfold gJs at h
 split at h
 ·obtain ⟨p0,p1,p2,p3,p4,p5,p6,p7,p8,p9,p10,p11,rfl,h1⟩:=c12_ex h
  obtain ⟨q0,q1,q2,q3,q4,q5,q6,q7,q8,q9,q10,q11,rfl,h2⟩:=c12_ex h1
  refine ⟨u9,(vc_js p0 p1 p2 p3 p4 p5 p6 p7 p8 p9 p10 p11 q0 q1 q2 q3 q4 q5 q6 q7 q8 q9 q10 q11 K).mpr ?_⟩
  rintro _ rfl _ rfl _ rfl _ rfl _ rfl _ rfl _ rfl _ rfl _ rfl _ rfl _ rfl _ rfl
  exact h2
 ·exact h.elim
def kJs:Ef Tryz.prog:=mkE mixed 69 Tryz.func69 (by decide) (by kernel_rfl) [] [.ptr 12 false,.ptr 12 true] gJs js_good js_ok
def cxFa:Cx Tryz.prog:= { rds:= [cInf],efs:= [cSz,kSo,kSet],eqs:= [] }
theorem vc_fa (z0 z1 z2 z3 z4 z5 z6 z7 z8 z9 z10 z11 x0 x1 x2 x3 x4 x5 x6 x7:Int) (K:SV→Mem→Prop):(execF cxFa u9 Tryz.f39 64 [.ptr 1 (.lit 0),.ptr 9 (.lit 0)] (memL [(1,⟨false,w12 z0 z1 z2 z3 z4 z5 z6 z7 z8 z9 z10 z11⟩),(9,⟨true,w8 x0 x1 x2 x3 x4 x5 x6 x7⟩)]) K)=
 ((W4 x0 x1 x2 x3∧W4 x4 x5 x6 x7)∧(decide (V4 x0 x1 x2 x3=0∧V4 x4 x5 x6 x7=0)=true→K (.ptr 1 (.lit 0)) (memL [(1,⟨false,w12 15230403791020821917 754611498739239741 7381016538464732716 1011752739694698287 15230403791020821917 754611498739239741 7381016538464732716 1011752739694698287 0 0 0 0⟩),(9,⟨true,w8 x0 x1 x2 x3 x4 x5 x6 x7⟩)]))∧
  (decide (V4 x0 x1 x2 x3=0∧V4 x4 x5 x6 x7=0)=false→K (.ptr 1 (.lit 0)) (memL [(1,⟨false,w12 x0 x1 x2 x3 x4 x5 x6 x7 15230403791020821917 754611498739239741 7381016538464732716 1011752739694698287⟩),(9,⟨true,w8 x0 x1 x2 x3 x4 x5 x6 x7⟩)]))):=by kernel_rfl
theorem El.zero {a b c d:Int} {X:Nat} (h:El a b c d (mont X)) (l:X<qN):V4 a b c d=0↔X=0:=by
 rw[h.val,←mont_z l]
 omega
theorem El.same {a b c d a' b' c' d':Int} {X Y:Nat} (h:El a b c d (mont X)) (k:El a' b' c' d' (mont Y)) (l:X<qN) (m:Y<qN):V4 a b c d=V4 a' b' c' d'↔X=Y:=by
 rw[h.val,k.val,←mont_q l m]
 omega
theorem one_el:El 15230403791020821917 754611498739239741 7381016538464732716 1011752739694698287 (mont 1):=⟨by decide +kernel,by decide +kernel,by decide +kernel,by decide +kernel,mont_lt _⟩
theorem zero_el:El 0 0 0 0 (mont 0):=⟨by decide +kernel,by decide +kernel,by decide +kernel,by decide +kernel,mont_lt _⟩
def gFa:G0:=fun args l K=>
 match args,l with
 | [.ptr 1 (.lit 0),.ptr 9 (.lit 0)],[(1,⟨false,z⟩),(9,⟨true,x⟩)]=>c12 z fun _ _ _ _ _ _ _ _ _ _ _ _=>c8 x fun x0 x1 x2 x3 x4 x5 x6 x7=>∃X Y,(El x0 x1 x2 x3 (mont X)∧El x4 x5 x6 x7 (mont Y)∧X<qN∧Y<qN)∧∀j0 j1 j2 j3 j4 j5 j6 j7 j8 j9 j10 j11,Jp j0 j1 j2 j3 j4 j5 j6 j7 j8 j9 j10 j11 (jfr X Y)→K (.ptr 1 (.lit 0)) (memL [(1,⟨false,w12 j0 j1 j2 j3 j4 j5 j6 j7 j8 j9 j10 j11⟩),(9,⟨true,w8 x0 x1 x2 x3 x4 x5 x6 x7⟩)])
 | _,_=>False
theorem jfr_ex {X Y:Nat} (l:X<qN) (m:Y<qN):∃j0 j1 j2 j3 j4 j5 j6 j7 j8 j9 j10 j11,Jp j0 j1 j2 j3 j4 j5 j6 j7 j8 j9 j10 j11 (jfr X Y):=Jp.ex (jf1_lt l) (jf1_lt m) (jfZ_lt _ _)
theorem fa_good:Good gFa:=by
 constructor
 ·intro args l K K' hk h
  unfold gFa at h ⊢
  split at h
  ·exact c12_mono (fun _ _ _ _ _ _ _ _ _ _ _ _ h=>c8_mono (fun _ _ _ _ _ _ _ _ h=>h.elim fun X h=>h.elim fun Y h=>⟨X,Y,h.1,fun j0 j1 j2 j3 j4 j5 j6 j7 j8 j9 j10 j11 hj=>hk _ _ (h.2 j0 j1 j2 j3 j4 j5 j6 j7 j8 j9 j10 j11 hj)⟩) h) h
  ·exact h.elim
 ·intro args l K h
  unfold gFa at h
  split at h
  ·obtain ⟨_,_,_,_,_,_,_,_,_,_,_,_,_,h⟩:=c12_ex h
   obtain ⟨_,_,_,_,_,_,_,_,_,h⟩:=c8_ex h
   obtain ⟨X,Y,⟨_,_,l,m⟩,h⟩:=h
   obtain ⟨j0,j1,j2,j3,j4,j5,j6,j7,j8,j9,j10,j11,e⟩:=jfr_ex l m
   exact ⟨_,_,h _ _ _ _ _ _ _ _ _ _ _ _ e⟩
  ·exact h.elim
theorem fa_ok (args:List SV) (l:List (Nat×Reg)) (K:SV→Mem→Prop) (hup:KUp K) (h:gFa args l K):∃U,execF cxFa U Tryz.f39 64 args (memL l) K:=by
 unfold gFa at h
 split at h
 ·obtain ⟨z0,z1,z2,z3,z4,z5,z6,z7,z8,z9,z10,z11,rfl,h1⟩:=c12_ex h
  obtain ⟨x0,x1,x2,x3,x4,x5,x6,x7,rfl,X,Y,⟨hx,hy,l,m⟩,hK⟩:=c8_ex h1
  refine ⟨u9,(vc_fa z0 z1 z2 z3 z4 z5 z6 z7 z8 z9 z10 z11 x0 x1 x2 x3 x4 x5 x6 x7 K).mpr ⟨⟨hx.wd,hy.wd⟩,fun h=> ?_,fun h=> ?_⟩⟩
  ·have h:X=0∧Y=0:=by simpa only[decide_eq_true_eq,hx.zero l,hy.zero m]using h
   have e:jfr X Y=⟨1,1,0⟩:=by unfold jfr jf1 jfZ;rw[if_pos h,if_pos h,if_pos h]
   rw[e]at hK
   exact hK _ _ _ _ _ _ _ _ _ _ _ _ ⟨one_el,one_el,zero_el,by decide,by decide,by decide⟩
  ·have h:¬(X=0∧Y=0):=by simpa only[decide_eq_false_iff_not,hx.zero l,hy.zero m]using h
   have e:jfr X Y=⟨X,Y,1⟩:=by unfold jfr jf1 jfZ;rw[if_neg h,if_neg h,if_neg h]
   rw[e]at hK
   exact hK _ _ _ _ _ _ _ _ _ _ _ _ ⟨hx,hy,one_el,l,m,show 1<qN by decide⟩
 ·exact h.elim
def kFa:Ef Tryz.prog:=mkE mixed 39 Tryz.func39 (by decide) (by kernel_rfl) [] [.ptr 12 false,.ptr 8 true] gFa fa_good fa_ok
theorem mulC_q {X Y:Nat} {a0 a1 a2 a3 b0 b1 b2 b3:Int} {K:Int→Int→Int→Int→Prop} (ha:El a0 a1 a2 a3 (mont X)) (hb:El b0 b1 b2 b3 (mont Y)) (h:∀y0 y1 y2 y3,El y0 y1 y2 y3 (mont (mq X Y))→K y0 y1 y2 y3):mulC a0 a1 a2 a3 b0 b1 b2 b3 K:=mulC_m ha hb h
theorem addC_q {X Y:Nat} {a0 a1 a2 a3 b0 b1 b2 b3:Int} {K:Int→Int→Int→Int→Prop} (ha:El a0 a1 a2 a3 (mont X)) (hb:El b0 b1 b2 b3 (mont Y)) (h:∀y0 y1 y2 y3,El y0 y1 y2 y3 (mont (aq X Y))→K y0 y1 y2 y3):addC a0 a1 a2 a3 b0 b1 b2 b3 K:=addC_m ha hb h
theorem dblC_q {X:Nat} {a0 a1 a2 a3:Int} {K:Int→Int→Int→Int→Prop} (ha:El a0 a1 a2 a3 (mont X)) (h:∀y0 y1 y2 y3,El y0 y1 y2 y3 (mont (db2 X))→K y0 y1 y2 y3):addC a0 a1 a2 a3 a0 a1 a2 a3 K:=addC_m ha ha h
theorem subC_q {X Y:Nat} {a0 a1 a2 a3 b0 b1 b2 b3:Int} {K:Int→Int→Int→Int→Prop} (ha:El a0 a1 a2 a3 (mont X)) (hb:El b0 b1 b2 b3 (mont Y)) (hY:Y<qN) (h:∀y0 y1 y2 y3,El y0 y1 y2 y3 (mont (dq X Y))→K y0 y1 y2 y3):subC a0 a1 a2 a3 b0 b1 b2 b3 K:=subC_m ha hb hY h
def cxDa:Cx Tryz.prog:= { rds:= [],efs:= [kSqr,kAddA,kSubA,kDb,kMulA],eqs:= [] }
def DaC (p0 p1 p2 p3 p4 p5 p6 p7 p8 p9 p10 p11:Int) (K:SV→Mem→Prop):Prop:=
 mulC p0 p1 p2 p3 p0 p1 p2 p3 fun a0 b0 c0 d0=>
 mulC p4 p5 p6 p7 p4 p5 p6 p7 fun a1 b1 c1 d1=>
 mulC a1 b1 c1 d1 a1 b1 c1 d1 fun a2 b2 c2 d2=>
 addC p0 p1 p2 p3 a1 b1 c1 d1 fun a3 b3 c3 d3=>
 mulC a3 b3 c3 d3 a3 b3 c3 d3 fun a4 b4 c4 d4=>
 subC a4 b4 c4 d4 a0 b0 c0 d0 fun a5 b5 c5 d5=>
 subC a5 b5 c5 d5 a2 b2 c2 d2 fun a6 b6 c6 d6=>
 addC a6 b6 c6 d6 a6 b6 c6 d6 fun a7 b7 c7 d7=>
 addC a0 b0 c0 d0 a0 b0 c0 d0 fun a8 b8 c8 d8=>
 addC a8 b8 c8 d8 a0 b0 c0 d0 fun a9 b9 c9 d9=>
 mulC a9 b9 c9 d9 a9 b9 c9 d9 fun a10 b10 c10 d10=>
 addC a7 b7 c7 d7 a7 b7 c7 d7 fun a11 b11 c11 d11=>
 mulC p4 p5 p6 p7 p8 p9 p10 p11 fun a12 b12 c12 d12=>
 addC a12 b12 c12 d12 a12 b12 c12 d12 fun a13 b13 c13 d13=>
 subC a10 b10 c10 d10 a11 b11 c11 d11 fun a14 b14 c14 d14=>
 subC a7 b7 c7 d7 a14 b14 c14 d14 fun a15 b15 c15 d15=>
 mulC a15 b15 c15 d15 a9 b9 c9 d9 fun a16 b16 c16 d16=>
 addC a2 b2 c2 d2 a2 b2 c2 d2 fun a17 b17 c17 d17=>
 addC a17 b17 c17 d17 a17 b17 c17 d17 fun a18 b18 c18 d18=>
 addC a18 b18 c18 d18 a18 b18 c18 d18 fun a19 b19 c19 d19=>
 subC a16 b16 c16 d16 a19 b19 c19 d19 fun a20 b20 c20 d20=>
 K (.ptr 1 (.lit 0)) (memL [(1,⟨false,w12 a14 b14 c14 d14 a20 b20 c20 d20 a13 b13 c13 d13⟩),(521,⟨false,w4 a0 b0 c0 d0⟩),(529,⟨false,w4 a1 b1 c1 d1⟩),(537,⟨false,w4 a2 b2 c2 d2⟩),(545,⟨false,w4 a7 b7 c7 d7⟩),(553,⟨false,w4 a9 b9 c9 d9⟩),(561,⟨false,w4 a10 b10 c10 d10⟩),(569,⟨false,w4 a19 b19 c19 d19⟩)])
theorem vc_da (p0 p1 p2 p3 p4 p5 p6 p7 p8 p9 p10 p11:Int) (K:SV→Mem→Prop):execF cxDa u9 Tryz.f71 64 [.ptr 1 (.lit 0)] (memL [(1,⟨false,w12 p0 p1 p2 p3 p4 p5 p6 p7 p8 p9 p10 p11⟩)]) K=DaC p0 p1 p2 p3 p4 p5 p6 p7 p8 p9 p10 p11 K:=by kernel_rfl
theorem da_walk {p0 p1 p2 p3 p4 p5 p6 p7 p8 p9 p10 p11:Int} {p:J3} {K:SV→Mem→Prop} (hup:KUp K) (hp:Jp p0 p1 p2 p3 p4 p5 p6 p7 p8 p9 p10 p11 p) (hK:∀j0 j1 j2 j3 j4 j5 j6 j7 j8 j9 j10 j11,Jp j0 j1 j2 j3 j4 j5 j6 j7 j8 j9 j10 j11 (dbl p)→K (.ptr 1 (.lit 0)) (memL [(1,⟨false,w12 j0 j1 j2 j3 j4 j5 j6 j7 j8 j9 j10 j11⟩)])):DaC p0 p1 p2 p3 p4 p5 p6 p7 p8 p9 p10 p11 K:=by
 unfold DaC
 refine mulC_q hp.x hp.x ?_
 intro a0 b0 c0 d0 h0
 refine mulC_q hp.y hp.y ?_
 intro a1 b1 c1 d1 h1
 refine mulC_q h1 h1 ?_
 intro a2 b2 c2 d2 h2
 refine addC_q hp.x h1 ?_
 intro a3 b3 c3 d3 h3
 refine mulC_q h3 h3 ?_
 intro a4 b4 c4 d4 h4
 refine subC_q h4 h0 (mq_lt _ _) ?_
 intro a5 b5 c5 d5 h5
 refine subC_q h5 h2 (mq_lt _ _) ?_
 intro a6 b6 c6 d6 h6
 refine dblC_q h6 ?_
 intro a7 b7 c7 d7 h7
 refine dblC_q h0 ?_
 intro a8 b8 c8 d8 h8
 refine addC_q h8 h0 ?_
 intro a9 b9 c9 d9 h9
 refine mulC_q h9 h9 ?_
 intro a10 b10 c10 d10 h10
 refine dblC_q h7 ?_
 intro a11 b11 c11 d11 h11
 refine mulC_q hp.y hp.z ?_
 intro a12 b12 c12 d12 h12
 refine dblC_q h12 ?_
 intro a13 b13 c13 d13 h13
 refine subC_q h10 h11 (db2_lt _) ?_
 intro a14 b14 c14 d14 h14
 refine subC_q h7 h14 (dq_lt _ _) ?_
 intro a15 b15 c15 d15 h15
 refine mulC_q h15 h9 ?_
 intro a16 b16 c16 d16 h16
 refine dblC_q h2 ?_
 intro a17 b17 c17 d17 h17
 refine dblC_q h17 ?_
 intro a18 b18 c18 d18 h18
 refine dblC_q h18 ?_
 intro a19 b19 c19 d19 h19
 refine subC_q h16 h19 (db2_lt _) ?_
 intro a20 b20 c20 d20 h20
 refine hup.le (memL_sub [1,521,529,537,545,553,561,569] rfl (by decide) (by
  intro x hx
  simp only[List.mem_cons,List.not_mem_nil,or_false]at hx ⊢
  simp[hx])) (hK _ _ _ _ _ _ _ _ _ _ _ _ ⟨h14,h20,h13,dbX_lt _ _,dq_lt _ _,db2_lt _⟩)
def gDa:G0:=fun args l K=>
 match args,l with
 | [.ptr 1 (.lit 0)],[(1,⟨false,z⟩)]=>c12 z fun p0 p1 p2 p3 p4 p5 p6 p7 p8 p9 p10 p11=>∃p,Jp p0 p1 p2 p3 p4 p5 p6 p7 p8 p9 p10 p11 p∧∀j0 j1 j2 j3 j4 j5 j6 j7 j8 j9 j10 j11,Jp j0 j1 j2 j3 j4 j5 j6 j7 j8 j9 j10 j11 (dbl p)→K (.ptr 1 (.lit 0)) (memL [(1,⟨false,w12 j0 j1 j2 j3 j4 j5 j6 j7 j8 j9 j10 j11⟩)])
 | _,_=>False
theorem dbl_ex (p:J3):∃j0 j1 j2 j3 j4 j5 j6 j7 j8 j9 j10 j11,Jp j0 j1 j2 j3 j4 j5 j6 j7 j8 j9 j10 j11 (dbl p):=Jp.ex (dbX_lt _ _) (dq_lt _ _) (db2_lt _)
theorem da_good:Good gDa:=by
 constructor
 ·intro args l K K' hk h
  unfold gDa at h ⊢
  split at h
  ·exact c12_mono (fun _ _ _ _ _ _ _ _ _ _ _ _ h=>h.elim fun p h=>⟨p,h.1,fun j0 j1 j2 j3 j4 j5 j6 j7 j8 j9 j10 j11 hj=>hk _ _ (h.2 j0 j1 j2 j3 j4 j5 j6 j7 j8 j9 j10 j11 hj)⟩) h
  ·exact h.elim
 ·intro args l K h
  unfold gDa at h
  split at h
  ·obtain ⟨_,_,_,_,_,_,_,_,_,_,_,_,_,h⟩:=c12_ex h
   obtain ⟨p,_,h⟩:=h
   obtain ⟨j0,j1,j2,j3,j4,j5,j6,j7,j8,j9,j10,j11,e⟩:=dbl_ex p
   exact ⟨_,_,h _ _ _ _ _ _ _ _ _ _ _ _ e⟩
  ·exact h.elim
theorem da_ok (args:List SV) (l:List (Nat×Reg)) (K:SV→Mem→Prop) (hup:KUp K) (h:gDa args l K):∃U,execF cxDa U Tryz.f71 64 args (memL l) K:=by
 unfold gDa at h
 split at h
 ·obtain ⟨p0,p1,p2,p3,p4,p5,p6,p7,p8,p9,p10,p11,rfl,p,hp,hK⟩:=c12_ex h
  exact ⟨u9,(vc_da p0 p1 p2 p3 p4 p5 p6 p7 p8 p9 p10 p11 K).mpr (da_walk hup hp hK)⟩
 ·exact h.elim
def kDa:Ef Tryz.prog:=mkE mixed 71 Tryz.func71 (by decide) (by kernel_rfl) [] [.ptr 12 false] gDa da_good da_ok
def cxAa:Cx Tryz.prog:= { rds:= [cIz,cEq],efs:= [kJs,kSqr,kMulA,kSubA,kAddA,kDb,kDa],eqs:= [] }
def ChC (p8 p9 p10 p11 q0 q1 q2 q3 q4 q5 q6 q7 q8 q9 q10 q11 za0 za1 za2 za3 zb0 zb1 zb2 zb3 u0 u1 u2 u3 w0 w1 w2 w3 s0 s1 s2 s3 t0 t1 t2 t3:Int) (K:SV→Mem→Prop):Prop:=
 subC w0 w1 w2 w3 u0 u1 u2 u3 fun fa0 fb0 fc0 fd0=>
 addC fa0 fb0 fc0 fd0 fa0 fb0 fc0 fd0 fun fa1 fb1 fc1 fd1=>
 mulC fa1 fb1 fc1 fd1 fa1 fb1 fc1 fd1 fun fa2 fb2 fc2 fd2=>
 mulC fa0 fb0 fc0 fd0 fa2 fb2 fc2 fd2 fun fa3 fb3 fc3 fd3=>
 subC t0 t1 t2 t3 s0 s1 s2 s3 fun fa4 fb4 fc4 fd4=>
 addC fa4 fb4 fc4 fd4 fa4 fb4 fc4 fd4 fun fa5 fb5 fc5 fd5=>
 mulC u0 u1 u2 u3 fa2 fb2 fc2 fd2 fun fa6 fb6 fc6 fd6=>
 mulC fa5 fb5 fc5 fd5 fa5 fb5 fc5 fd5 fun fa7 fb7 fc7 fd7=>
 subC fa7 fb7 fc7 fd7 fa3 fb3 fc3 fd3 fun fa8 fb8 fc8 fd8=>
 subC fa8 fb8 fc8 fd8 fa6 fb6 fc6 fd6 fun fa9 fb9 fc9 fd9=>
 subC fa9 fb9 fc9 fd9 fa6 fb6 fc6 fd6 fun fa10 fb10 fc10 fd10=>
 subC fa6 fb6 fc6 fd6 fa10 fb10 fc10 fd10 fun fa11 fb11 fc11 fd11=>
 mulC fa11 fb11 fc11 fd11 fa5 fb5 fc5 fd5 fun fa12 fb12 fc12 fd12=>
 mulC s0 s1 s2 s3 fa3 fb3 fc3 fd3 fun fa13 fb13 fc13 fd13=>
 addC fa13 fb13 fc13 fd13 fa13 fb13 fc13 fd13 fun fa14 fb14 fc14 fd14=>
 subC fa12 fb12 fc12 fd12 fa14 fb14 fc14 fd14 fun fa15 fb15 fc15 fd15=>
 addC p8 p9 p10 p11 q8 q9 q10 q11 fun fa16 fb16 fc16 fd16=>
 mulC fa16 fb16 fc16 fd16 fa16 fb16 fc16 fd16 fun fa17 fb17 fc17 fd17=>
 subC fa17 fb17 fc17 fd17 za0 za1 za2 za3 fun fa18 fb18 fc18 fd18=>
 subC fa18 fb18 fc18 fd18 zb0 zb1 zb2 zb3 fun fa19 fb19 fc19 fd19=>
 mulC fa19 fb19 fc19 fd19 fa0 fb0 fc0 fd0 fun fa20 fb20 fc20 fd20=>
 K (.ptr 1 (.lit 0)) (memL [(1,⟨false,w12 fa10 fb10 fc10 fd10 fa15 fb15 fc15 fd15 fa20 fb20 fc20 fd20⟩),(9,⟨true,w12 q0 q1 q2 q3 q4 q5 q6 q7 q8 q9 q10 q11⟩),(585,⟨false,w4 za0 za1 za2 za3⟩),(593,⟨false,w4 zb0 zb1 zb2 zb3⟩),(601,⟨false,w4 u0 u1 u2 u3⟩),(609,⟨false,w4 w0 w1 w2 w3⟩),(617,⟨false,w4 fa14 fb14 fc14 fd14⟩),(625,⟨false,w4 t0 t1 t2 t3⟩),(633,⟨false,w4 fa0 fb0 fc0 fd0⟩),(641,⟨false,w4 fa2 fb2 fc2 fd2⟩),(649,⟨false,w4 fa3 fb3 fc3 fd3⟩),(657,⟨false,w4 fa5 fb5 fc5 fd5⟩),(665,⟨false,w4 fa6 fb6 fc6 fd6⟩)])
def AaC (p0 p1 p2 p3 p4 p5 p6 p7 p8 p9 p10 p11 q0 q1 q2 q3 q4 q5 q6 q7 q8 q9 q10 q11:Int) (K:SV→Mem→Prop):Prop:=
 W4 p8 p9 p10 p11∧(decide (V4 p8 p9 p10 p11=0)=true→K (.ptr 1 (.lit 0)) (memL [(1,⟨false,w12 q0 q1 q2 q3 q4 q5 q6 q7 q8 q9 q10 q11⟩),(9,⟨true,w12 q0 q1 q2 q3 q4 q5 q6 q7 q8 q9 q10 q11⟩)]))∧(decide (V4 p8 p9 p10 p11=0)=false→
 W4 q8 q9 q10 q11∧(decide (V4 q8 q9 q10 q11=0)=true→K (.ptr 1 (.lit 0)) (memL [(1,⟨false,w12 p0 p1 p2 p3 p4 p5 p6 p7 p8 p9 p10 p11⟩),(9,⟨true,w12 q0 q1 q2 q3 q4 q5 q6 q7 q8 q9 q10 q11⟩)]))∧(decide (V4 q8 q9 q10 q11=0)=false→
 mulC q8 q9 q10 q11 q8 q9 q10 q11 fun ea0 eb0 ec0 ed0=>
 mulC p8 p9 p10 p11 p8 p9 p10 p11 fun ea1 eb1 ec1 ed1=>
 mulC q0 q1 q2 q3 ea1 eb1 ec1 ed1 fun ea2 eb2 ec2 ed2=>
 mulC p0 p1 p2 p3 ea0 eb0 ec0 ed0 fun ea3 eb3 ec3 ed3=>
 mulC q4 q5 q6 q7 p8 p9 p10 p11 fun ea4 eb4 ec4 ed4=>
 mulC ea4 eb4 ec4 ed4 ea1 eb1 ec1 ed1 fun ea5 eb5 ec5 ed5=>
 mulC p4 p5 p6 p7 q8 q9 q10 q11 fun ea6 eb6 ec6 ed6=>
 mulC ea6 eb6 ec6 ed6 ea0 eb0 ec0 ed0 fun ea7 eb7 ec7 ed7=>
 (W4 ea2 eb2 ec2 ed2∧W4 ea3 eb3 ec3 ed3)∧(decide (V4 ea2 eb2 ec2 ed2=V4 ea3 eb3 ec3 ed3)=true→(W4 ea5 eb5 ec5 ed5∧W4 ea7 eb7 ec7 ed7)∧
  (decide (V4 ea5 eb5 ec5 ed5=V4 ea7 eb7 ec7 ed7)=true→∃p,Jp p0 p1 p2 p3 p4 p5 p6 p7 p8 p9 p10 p11 p∧∀j0 j1 j2 j3 j4 j5 j6 j7 j8 j9 j10 j11,Jp j0 j1 j2 j3 j4 j5 j6 j7 j8 j9 j10 j11 (dbl p)→K (.ptr 1 (.lit 0)) (memL [(1,⟨false,w12 j0 j1 j2 j3 j4 j5 j6 j7 j8 j9 j10 j11⟩),(9,⟨true,w12 q0 q1 q2 q3 q4 q5 q6 q7 q8 q9 q10 q11⟩),(585,⟨false,w4 ea0 eb0 ec0 ed0⟩),(593,⟨false,w4 ea1 eb1 ec1 ed1⟩),(601,⟨false,w4 ea2 eb2 ec2 ed2⟩),(609,⟨false,w4 ea3 eb3 ec3 ed3⟩),(617,⟨false,w4 ea5 eb5 ec5 ed5⟩),(625,⟨false,w4 ea7 eb7 ec7 ed7⟩),(633,⟨false,.cells [.int .u64 (.lit 0),.int .u64 (.lit 0),.int .u64 (.lit 0),.int .u64 (.lit 0)]⟩),(641,⟨false,.cells [.int .u64 (.lit 0),.int .u64 (.lit 0),.int .u64 (.lit 0),.int .u64 (.lit 0)]⟩),(649,⟨false,.cells [.int .u64 (.lit 0),.int .u64 (.lit 0),.int .u64 (.lit 0),.int .u64 (.lit 0)]⟩),(657,⟨false,.cells [.int .u64 (.lit 0),.int .u64 (.lit 0),.int .u64 (.lit 0),.int .u64 (.lit 0)]⟩),(665,⟨false,.cells [.int .u64 (.lit 0),.int .u64 (.lit 0),.int .u64 (.lit 0),.int .u64 (.lit 0)]⟩)]))∧(decide (V4 ea5 eb5 ec5 ed5=V4 ea7 eb7 ec7 ed7)=false→ChC p8 p9 p10 p11 q0 q1 q2 q3 q4 q5 q6 q7 q8 q9 q10 q11 ea0 eb0 ec0 ed0 ea1 eb1 ec1 ed1 ea2 eb2 ec2 ed2 ea3 eb3 ec3 ed3 ea5 eb5 ec5 ed5 ea7 eb7 ec7 ed7 K))∧
  (decide (V4 ea2 eb2 ec2 ed2=V4 ea3 eb3 ec3 ed3)=false→ChC p8 p9 p10 p11 q0 q1 q2 q3 q4 q5 q6 q7 q8 q9 q10 q11 ea0 eb0 ec0 ed0 ea1 eb1 ec1 ed1 ea2 eb2 ec2 ed2 ea3 eb3 ec3 ed3 ea5 eb5 ec5 ed5 ea7 eb7 ec7 ed7 K)))
theorem vc_aa (p0 p1 p2 p3 p4 p5 p6 p7 p8 p9 p10 p11 q0 q1 q2 q3 q4 q5 q6 q7 q8 q9 q10 q11:Int) (K:SV→Mem→Prop):execF cxAa u9 Tryz.f40 64 [.ptr 1 (.lit 0),.ptr 9 (.lit 0)] (memL [(1,⟨false,w12 p0 p1 p2 p3 p4 p5 p6 p7 p8 p9 p10 p11⟩),(9,⟨true,w12 q0 q1 q2 q3 q4 q5 q6 q7 q8 q9 q10 q11⟩)]) K=AaC p0 p1 p2 p3 p4 p5 p6 p7 p8 p9 p10 p11 q0 q1 q2 q3 q4 q5 q6 q7 q8 q9 q10 q11 K:=by kernel_rfl
theorem ch_walk {p8 p9 p10 p11 q0 q1 q2 q3 q4 q5 q6 q7 q8 q9 q10 q11 za0 za1 za2 za3 zb0 zb1 zb2 zb3 u0 u1 u2 u3 w0 w1 w2 w3 s0 s1 s2 s3 t0 t1 t2 t3:Int} {U1 U2 S1 S2 Z1 Z2:Nat} {K:SV→Mem→Prop} (hup:KUp K) (hz1:El p8 p9 p10 p11 (mont Z1)) (hz2:El q8 q9 q10 q11 (mont Z2))
  (h_za:El za0 za1 za2 za3 (mont (mq Z2 Z2))) (h_zb:El zb0 zb1 zb2 zb3 (mont (mq Z1 Z1))) (h_u:El u0 u1 u2 u3 (mont U1)) (h_w:El w0 w1 w2 w3 (mont U2)) (h_s:El s0 s1 s2 s3 (mont S1)) (h_t:El t0 t1 t2 t3 (mont S2))
  (l_u:U1<qN) (l_s:S1<qN) (hK:∀j0 j1 j2 j3 j4 j5 j6 j7 j8 j9 j10 j11,El j0 j1 j2 j3 (mont (chX U1 U2 S1 S2))→El j4 j5 j6 j7 (mont (chY U1 U2 S1 S2))→El j8 j9 j10 j11 (mont (chZ U1 U2 Z1 Z2))→K (.ptr 1 (.lit 0)) (memL [(1,⟨false,w12 j0 j1 j2 j3 j4 j5 j6 j7 j8 j9 j10 j11⟩),(9,⟨true,w12 q0 q1 q2 q3 q4 q5 q6 q7 q8 q9 q10 q11⟩)])):
  ChC p8 p9 p10 p11 q0 q1 q2 q3 q4 q5 q6 q7 q8 q9 q10 q11 za0 za1 za2 za3 zb0 zb1 zb2 zb3 u0 u1 u2 u3 w0 w1 w2 w3 s0 s1 s2 s3 t0 t1 t2 t3 K:=by
 unfold ChC
 refine subC_q h_w h_u (l_u) ?_
 intro fa0 fb0 fc0 fd0 hf0
 refine dblC_q hf0 ?_
 intro fa1 fb1 fc1 fd1 hf1
 refine mulC_q hf1 hf1 ?_
 intro fa2 fb2 fc2 fd2 hf2
 refine mulC_q hf0 hf2 ?_
 intro fa3 fb3 fc3 fd3 hf3
 refine subC_q h_t h_s (l_s) ?_
 intro fa4 fb4 fc4 fd4 hf4
 refine dblC_q hf4 ?_
 intro fa5 fb5 fc5 fd5 hf5
 refine mulC_q h_u hf2 ?_
 intro fa6 fb6 fc6 fd6 hf6
 refine mulC_q hf5 hf5 ?_
 intro fa7 fb7 fc7 fd7 hf7
 refine subC_q hf7 hf3 (mq_lt _ _) ?_
 intro fa8 fb8 fc8 fd8 hf8
 refine subC_q hf8 hf6 (mq_lt _ _) ?_
 intro fa9 fb9 fc9 fd9 hf9
 refine subC_q hf9 hf6 (mq_lt _ _) ?_
 intro fa10 fb10 fc10 fd10 hf10
 refine subC_q hf6 hf10 (dq_lt _ _) ?_
 intro fa11 fb11 fc11 fd11 hf11
 refine mulC_q hf11 hf5 ?_
 intro fa12 fb12 fc12 fd12 hf12
 refine mulC_q h_s hf3 ?_
 intro fa13 fb13 fc13 fd13 hf13
 refine dblC_q hf13 ?_
 intro fa14 fb14 fc14 fd14 hf14
 refine subC_q hf12 hf14 (db2_lt _) ?_
 intro fa15 fb15 fc15 fd15 hf15
 refine addC_q hz1 hz2 ?_
 intro fa16 fb16 fc16 fd16 hf16
 refine mulC_q hf16 hf16 ?_
 intro fa17 fb17 fc17 fd17 hf17
 refine subC_q hf17 h_za (mq_lt _ _) ?_
 intro fa18 fb18 fc18 fd18 hf18
 refine subC_q hf18 h_zb (mq_lt _ _) ?_
 intro fa19 fb19 fc19 fd19 hf19
 refine mulC_q hf19 hf0 ?_
 intro fa20 fb20 fc20 fd20 hf20
 exact hup.le (memL_sub [1,9,585,593,601,609,617,625,633,641,649,657,665] rfl (by decide) (by
  intro x hx
  simp only[List.mem_cons,List.not_mem_nil,or_false]at hx ⊢
  rcases hx with rfl | rfl<;>simp)) (hK _ _ _ _ _ _ _ _ _ _ _ _ hf10 hf15 hf20)
theorem aa_walk {p0 p1 p2 p3 p4 p5 p6 p7 p8 p9 p10 p11 q0 q1 q2 q3 q4 q5 q6 q7 q8 q9 q10 q11:Int} {p q:J3} {K:SV→Mem→Prop} (hup:KUp K) (hp:Jp p0 p1 p2 p3 p4 p5 p6 p7 p8 p9 p10 p11 p) (hq:Jp q0 q1 q2 q3 q4 q5 q6 q7 q8 q9 q10 q11 q) (hK:∀j0 j1 j2 j3 j4 j5 j6 j7 j8 j9 j10 j11,Jp j0 j1 j2 j3 j4 j5 j6 j7 j8 j9 j10 j11 (jad p q)→K (.ptr 1 (.lit 0)) (memL [(1,⟨false,w12 j0 j1 j2 j3 j4 j5 j6 j7 j8 j9 j10 j11⟩),(9,⟨true,w12 q0 q1 q2 q3 q4 q5 q6 q7 q8 q9 q10 q11⟩)])):AaC p0 p1 p2 p3 p4 p5 p6 p7 p8 p9 p10 p11 q0 q1 q2 q3 q4 q5 q6 q7 q8 q9 q10 q11 K:=by
 unfold AaC
 simp only[decide_eq_true_eq,decide_eq_false_iff_not]
 refine ⟨hp.z.wd,fun h=> ?_,fun n0=>⟨hq.z.wd,fun h=> ?_,fun n1=> ?_⟩⟩
 ·have h:=(hp.z.zero hp.lz).1 h
  have e:jad p q=q:=by unfold jad;rw[if_pos h]
  rw[e]at hK
  exact hK _ _ _ _ _ _ _ _ _ _ _ _ hq
 ·have n0:=fun e=>n0 ((hp.z.zero hp.lz).2 e)
  have h:=(hq.z.zero hq.lz).1 h
  have e:jad p q=p:=by unfold jad;rw[if_neg n0,if_pos h]
  rw[e]at hK
  exact hK _ _ _ _ _ _ _ _ _ _ _ _ hp
 have n0:=fun e=>n0 ((hp.z.zero hp.lz).2 e)
 have n1:=fun e=>n1 ((hq.z.zero hq.lz).2 e)
 refine mulC_q hq.z hq.z ?_
 intro ea0 eb0 ec0 ed0 he0
 refine mulC_q hp.z hp.z ?_
 intro ea1 eb1 ec1 ed1 he1
 refine mulC_q hq.x he1 ?_
 intro ea2 eb2 ec2 ed2 he2
 refine mulC_q hp.x he0 ?_
 intro ea3 eb3 ec3 ed3 he3
 refine mulC_q hq.y hp.z ?_
 intro ea4 eb4 ec4 ed4 he4
 refine mulC_q he4 he1 ?_
 intro ea5 eb5 ec5 ed5 he5
 refine mulC_q hp.y hq.z ?_
 intro ea6 eb6 ec6 ed6 he6
 refine mulC_q he6 he0 ?_
 intro ea7 eb7 ec7 ed7 he7
 have uu:∀ {h:mq q.x (mq p.z p.z)≠mq p.x (mq q.z q.z)∨mq (mq q.y p.z) (mq p.z p.z)≠mq (mq p.y q.z) (mq q.z q.z)},ChC p8 p9 p10 p11 q0 q1 q2 q3 q4 q5 q6 q7 q8 q9 q10 q11 ea0 eb0 ec0 ed0 ea1 eb1 ec1 ed1 ea2 eb2 ec2 ed2 ea3 eb3 ec3 ed3 ea5 eb5 ec5 ed5 ea7 eb7 ec7 ed7 K:=by
  intro h
  have h:¬(adU q.x p.z=adU p.x q.z∧adS q.y p.z p.z=adS p.y q.z q.z):=fun k=>h.elim (fun h=>h k.1) (fun h=>h k.2)
  have e:jad p q=chd p q:=by unfold jad;rw[if_neg n0,if_neg n1,if_neg h]
  rw[e]at hK
  exact ch_walk hup hp.z hq.z he0 he1 he2 he3 he5 he7 (mq_lt _ _) (mq_lt _ _) fun j0 j1 j2 j3 j4 j5 j6 j7 j8 j9 j10 j11 hx hy hz=>hK j0 j1 j2 j3 j4 j5 j6 j7 j8 j9 j10 j11 ⟨hx,hy,hz,chX_lt _ _ _ _,dq_lt _ _,mq_lt _ _⟩
 refine ⟨⟨he2.wd,he3.wd⟩,fun eu=>⟨⟨he5.wd,he7.wd⟩,fun es=> ?_,fun ns=>uu (h:= .inr fun e=>ns ((he5.same he7 (mq_lt _ _) (mq_lt _ _)).2 e))⟩,fun nu=>uu (h:= .inl fun e=>nu ((he2.same he3 (mq_lt _ _) (mq_lt _ _)).2 e))⟩
 have eu:=(he2.same he3 (mq_lt _ _) (mq_lt _ _)).1 eu
 have es:=(he5.same he7 (mq_lt _ _) (mq_lt _ _)).1 es
 have h:adU q.x p.z=adU p.x q.z∧adS q.y p.z p.z=adS p.y q.z q.z:=⟨eu,es⟩
 have e:jad p q=dbl p:=by unfold jad;rw[if_neg n0,if_neg n1,if_pos h]
 rw[e]at hK
 exact ⟨p,hp,fun j0 j1 j2 j3 j4 j5 j6 j7 j8 j9 j10 j11 hj=>hup.le (memL_sub [1,9,585,593,601,609,617,625,633,641,649,657,665] rfl (by decide) (by
  intro x hx
  simp only[List.mem_cons,List.not_mem_nil,or_false]at hx ⊢
  rcases hx with rfl | rfl<;>simp)) (hK j0 j1 j2 j3 j4 j5 j6 j7 j8 j9 j10 j11 hj)⟩
def gAa:G0:=fun args l K=>
 match args,l with
 | [.ptr 1 (.lit 0),.ptr 9 (.lit 0)],[(1,⟨false,x⟩),(9,⟨true,y⟩)]=>c12 x fun p0 p1 p2 p3 p4 p5 p6 p7 p8 p9 p10 p11=>c12 y fun q0 q1 q2 q3 q4 q5 q6 q7 q8 q9 q10 q11=>∃p q,(Jp p0 p1 p2 p3 p4 p5 p6 p7 p8 p9 p10 p11 p∧Jp q0 q1 q2 q3 q4 q5 q6 q7 q8 q9 q10 q11 q)∧∀j0 j1 j2 j3 j4 j5 j6 j7 j8 j9 j10 j11,Jp j0 j1 j2 j3 j4 j5 j6 j7 j8 j9 j10 j11 (jad p q)→K (.ptr 1 (.lit 0)) (memL [(1,⟨false,w12 j0 j1 j2 j3 j4 j5 j6 j7 j8 j9 j10 j11⟩),(9,⟨true,w12 q0 q1 q2 q3 q4 q5 q6 q7 q8 q9 q10 q11⟩)])
 | _,_=>False
theorem Jp.lt {p0 p1 p2 p3 p4 p5 p6 p7 p8 p9 p10 p11:Int} {p:J3} (h:Jp p0 p1 p2 p3 p4 p5 p6 p7 p8 p9 p10 p11 p):p.x<qN∧p.y<qN∧p.z<qN:=⟨h.lx,h.ly,h.lz⟩
theorem aa_good:Good gAa:=by
 constructor
 ·intro args l K K' hk h
  unfold gAa at h ⊢
  split at h
  ·exact c12_mono (fun _ _ _ _ _ _ _ _ _ _ _ _ h=>c12_mono (fun _ _ _ _ _ _ _ _ _ _ _ _ h=>h.elim fun p h=>h.elim fun q h=>⟨p,q,h.1,fun j0 j1 j2 j3 j4 j5 j6 j7 j8 j9 j10 j11 hj=>hk _ _ (h.2 j0 j1 j2 j3 j4 j5 j6 j7 j8 j9 j10 j11 hj)⟩) h) h
  ·exact h.elim
 ·intro args l K h
  unfold gAa at h
  split at h
  ·obtain ⟨_,_,_,_,_,_,_,_,_,_,_,_,_,h⟩:=c12_ex h
   obtain ⟨_,_,_,_,_,_,_,_,_,_,_,_,_,h⟩:=c12_ex h
   obtain ⟨p,q,⟨hp,hq⟩,h⟩:=h
   obtain ⟨a,b,c⟩:=jad_lt hp.lt hq.lt
   obtain ⟨j0,j1,j2,j3,j4,j5,j6,j7,j8,j9,j10,j11,e⟩:=Jp.ex a b c
   exact ⟨_,_,h _ _ _ _ _ _ _ _ _ _ _ _ e⟩
  ·exact h.elim
theorem aa_ok (args:List SV) (l:List (Nat×Reg)) (K:SV→Mem→Prop) (hup:KUp K) (h:gAa args l K):∃U,execF cxAa U Tryz.f40 64 args (memL l) K:=by
 unfold gAa at h
 split at h
 ·obtain ⟨p0,p1,p2,p3,p4,p5,p6,p7,p8,p9,p10,p11,rfl,h1⟩:=c12_ex h
  obtain ⟨q0,q1,q2,q3,q4,q5,q6,q7,q8,q9,q10,q11,rfl,p,q,⟨hp,hq⟩,hK⟩:=c12_ex h1
  exact ⟨u9,(vc_aa p0 p1 p2 p3 p4 p5 p6 p7 p8 p9 p10 p11 q0 q1 q2 q3 q4 q5 q6 q7 q8 q9 q10 q11 K).mpr (aa_walk hup hp hq hK)⟩
 ·exact h.elim
def kAa:Ef Tryz.prog:=mkE mixed 40 Tryz.func40 (by decide) (by kernel_rfl) [] [.ptr 12 false,.ptr 12 true] gAa aa_good aa_ok
def cxFj:Cx Tryz.prog:= { rds:= [cIz],efs:= [cSz,kSqr,kMulA,kIv],eqs:= [] }
def z4r:Reg:=⟨false,.cells [.int .u64 (.lit 0),.int .u64 (.lit 0),.int .u64 (.lit 0),.int .u64 (.lit 0)]⟩
def FjC (p0 p1 p2 p3 p4 p5 p6 p7 p8 p9 p10 p11:Int) (K:SV→Mem→Prop):Prop:=
 W4 p8 p9 p10 p11∧(decide (V4 p8 p9 p10 p11=0)=true→K (.ptr 1 (.lit 0)) (memL [(1,⟨false,w8 0 0 0 0 0 0 0 0⟩),(9,⟨true,w12 p0 p1 p2 p3 p4 p5 p6 p7 p8 p9 p10 p11⟩),(521,z4r),(529,z4r)]))∧
 (decide (V4 p8 p9 p10 p11=0)=false→ivC p8 p9 p10 p11 fun a0 a1 a2 a3=>mulC a0 a1 a2 a3 a0 a1 a2 a3 fun b0 b1 b2 b3=>
  mulC p0 p1 p2 p3 b0 b1 b2 b3 fun x0 x1 x2 x3=>mulC p4 p5 p6 p7 b0 b1 b2 b3 fun c0 c1 c2 c3=>mulC c0 c1 c2 c3 a0 a1 a2 a3 fun x4 x5 x6 x7=>
  K (.ptr 1 (.lit 0)) (memL [(1,⟨false,w8 x0 x1 x2 x3 x4 x5 x6 x7⟩),(9,⟨true,w12 p0 p1 p2 p3 p4 p5 p6 p7 p8 p9 p10 p11⟩),(521,⟨false,w4 a0 a1 a2 a3⟩),(529,⟨false,w4 b0 b1 b2 b3⟩)]))
theorem vc_fj (z0 z1 z2 z3 z4 z5 z6 z7 p0 p1 p2 p3 p4 p5 p6 p7 p8 p9 p10 p11:Int) (K:SV→Mem→Prop):execF cxFj u9 Tryz.f41 64 [.ptr 1 (.lit 0),.ptr 9 (.lit 0)] (memL [(1,⟨false,w8 z0 z1 z2 z3 z4 z5 z6 z7⟩),(9,⟨true,w12 p0 p1 p2 p3 p4 p5 p6 p7 p8 p9 p10 p11⟩)]) K=FjC p0 p1 p2 p3 p4 p5 p6 p7 p8 p9 p10 p11 K:=by kernel_rfl
theorem fj_walk {p0 p1 p2 p3 p4 p5 p6 p7 p8 p9 p10 p11:Int} {p:J3} {K:SV→Mem→Prop} (hup:KUp K) (hp:Jp p0 p1 p2 p3 p4 p5 p6 p7 p8 p9 p10 p11 p) (hK:∀y0 y1 y2 y3 y4 y5 y6 y7,El y0 y1 y2 y3 (mont (jtX p))→El y4 y5 y6 y7 (mont (jtY p))→K (.ptr 1 (.lit 0)) (memL [(1,⟨false,w8 y0 y1 y2 y3 y4 y5 y6 y7⟩),(9,⟨true,w12 p0 p1 p2 p3 p4 p5 p6 p7 p8 p9 p10 p11⟩)])):FjC p0 p1 p2 p3 p4 p5 p6 p7 p8 p9 p10 p11 K:=by
 unfold FjC
 simp only[decide_eq_true_eq,decide_eq_false_iff_not]
 have sub:∀ {y0 y1 y2 y3 y4 y5 y6 y7:Int} {g h:Reg},K (.ptr 1 (.lit 0)) (memL [(1,⟨false,w8 y0 y1 y2 y3 y4 y5 y6 y7⟩),(9,⟨true,w12 p0 p1 p2 p3 p4 p5 p6 p7 p8 p9 p10 p11⟩)])→K (.ptr 1 (.lit 0)) (memL [(1,⟨false,w8 y0 y1 y2 y3 y4 y5 y6 y7⟩),(9,⟨true,w12 p0 p1 p2 p3 p4 p5 p6 p7 p8 p9 p10 p11⟩),(521,g),(529,h)]):=by
  intro y0 y1 y2 y3 y4 y5 y6 y7 g h hk
  exact hup.le (memL_sub [1,9,521,529] rfl (by decide) (by
   intro x hx
   simp only[List.mem_cons,List.not_mem_nil,or_false]at hx ⊢
   rcases hx with rfl | rfl<;>simp)) hk
 refine ⟨hp.z.wd,fun h=> ?_,fun h=> ?_⟩
 ·obtain ⟨ex,ey⟩:=jt_zero ((hp.z.zero hp.lz).1 h)
  rw[ex,ey]at hK
  exact sub (hK 0 0 0 0 0 0 0 0 zero_el zero_el)
 ·have h:=fun e=>h ((hp.z.zero hp.lz).2 e)
  refine ivC_m hp.z hp.lz ?_
  intro a0 a1 a2 a3 ha
  refine mulC_q ha ha ?_
  intro b0 b1 b2 b3 hb
  refine mulC_q hp.x hb ?_
  intro x0 x1 x2 x3 hx
  refine mulC_q hp.y hb ?_
  intro c0 c1 c2 c3 hc
  refine mulC_q hc ha ?_
  intro x4 x5 x6 x7 hy
  have ex:jtX p=mq p.x (mq (inv0 p.z) (inv0 p.z)):=by unfold jtX;rw[if_neg h]
  have ey:jtY p=mq (mq p.y (mq (inv0 p.z) (inv0 p.z))) (inv0 p.z):=by unfold jtY;rw[if_neg h]
  rw[ex,ey]at hK
  exact sub (hK _ _ _ _ _ _ _ _ hx hy)
def gFj:G0:=fun args l K=>
 match args,l with
 | [.ptr 1 (.lit 0),.ptr 9 (.lit 0)],[(1,⟨false,z⟩),(9,⟨true,x⟩)]=>c8 z fun _ _ _ _ _ _ _ _=>c12 x fun p0 p1 p2 p3 p4 p5 p6 p7 p8 p9 p10 p11=>∃p,Jp p0 p1 p2 p3 p4 p5 p6 p7 p8 p9 p10 p11 p∧∀y0 y1 y2 y3 y4 y5 y6 y7,El y0 y1 y2 y3 (mont (jtX p))→El y4 y5 y6 y7 (mont (jtY p))→K (.ptr 1 (.lit 0)) (memL [(1,⟨false,w8 y0 y1 y2 y3 y4 y5 y6 y7⟩),(9,⟨true,w12 p0 p1 p2 p3 p4 p5 p6 p7 p8 p9 p10 p11⟩)])
 | _,_=>False
theorem fj_good:Good gFj:=by
 constructor
 ·intro args l K K' hk h
  unfold gFj at h ⊢
  split at h
  ·exact c8_mono (fun _ _ _ _ _ _ _ _ h=>c12_mono (fun _ _ _ _ _ _ _ _ _ _ _ _ h=>h.elim fun p h=>⟨p,h.1,fun y0 y1 y2 y3 y4 y5 y6 y7 hx hy=>hk _ _ (h.2 y0 y1 y2 y3 y4 y5 y6 y7 hx hy)⟩) h) h
  ·exact h.elim
 ·intro args l K h
  unfold gFj at h
  split at h
  ·obtain ⟨_,_,_,_,_,_,_,_,_,h⟩:=c8_ex h
   obtain ⟨_,_,_,_,_,_,_,_,_,_,_,_,_,h⟩:=c12_ex h
   obtain ⟨p,_,h⟩:=h
   exact ⟨_,_,h _ _ _ _ _ _ _ _ (El.of (mont_lt _)) (El.of (mont_lt _))⟩
  ·exact h.elim
theorem fj_ok (args:List SV) (l:List (Nat×Reg)) (K:SV→Mem→Prop) (hup:KUp K) (h:gFj args l K):∃U,execF cxFj U Tryz.f41 64 args (memL l) K:=by
 unfold gFj at h
 split at h
 ·obtain ⟨z0,z1,z2,z3,z4,z5,z6,z7,rfl,h1⟩:=c8_ex h
  obtain ⟨p0,p1,p2,p3,p4,p5,p6,p7,p8,p9,p10,p11,rfl,p,hp,hK⟩:=c12_ex h1
  exact ⟨u9,(vc_fj z0 z1 z2 z3 z4 z5 z6 z7 p0 p1 p2 p3 p4 p5 p6 p7 p8 p9 p10 p11 K).mpr (fj_walk hup hp hK)⟩
 ·exact h.elim
def kFj:Ef Tryz.prog:=mkE mixed 41 Tryz.func41 (by decide) (by kernel_rfl) [] [.ptr 8 false,.ptr 12 true] gFj fj_good fj_ok
def cxHg:Cx Tryz.prog:= { rds:= [cMc],efs:= [cFH,kFa,kAa,kFj],eqs:= [] }
def HgT (x0 x1 x2 x3 x4 x5 x6 x7 x8 x9 x10 x11 x12 x13 x14 x15:Int) (P:SV→Prop):Prop:=
 ∃X Y,(El x0 x1 x2 x3 (mont X)∧El x4 x5 x6 x7 (mont Y)∧X<qN∧Y<qN)∧∀j0 j1 j2 j3 j4 j5 j6 j7 j8 j9 j10 j11,Jp j0 j1 j2 j3 j4 j5 j6 j7 j8 j9 j10 j11 (jfr X Y)→
 ∃X Y,(El x8 x9 x10 x11 (mont X)∧El x12 x13 x14 x15 (mont Y)∧X<qN∧Y<qN)∧∀k0 k1 k2 k3 k4 k5 k6 k7 k8 k9 k10 k11,Jp k0 k1 k2 k3 k4 k5 k6 k7 k8 k9 k10 k11 (jfr X Y)→
 ∃p q,(Jp k0 k1 k2 k3 k4 k5 k6 k7 k8 k9 k10 k11 p∧Jp j0 j1 j2 j3 j4 j5 j6 j7 j8 j9 j10 j11 q)∧∀m0 m1 m2 m3 m4 m5 m6 m7 m8 m9 m10 m11,Jp m0 m1 m2 m3 m4 m5 m6 m7 m8 m9 m10 m11 (jad p q)→∃p,Jp m0 m1 m2 m3 m4 m5 m6 m7 m8 m9 m10 m11 p∧∀y0 y1 y2 y3 y4 y5 y6 y7,El y0 y1 y2 y3 (mont (jtX p))→El y4 y5 y6 y7 (mont (jtY p))→
 B4 y0 y1 y2 y3 fun a b c d=>B4 y4 y5 y6 y7 fun e f g h=>P (.tup [.agg [U a,U b,U c,U d,U e,U f,U g,U h],.val .nilIface])
def Mp4 (ys:List Int) (n:Nat) (K:Int→Int→Int→Int→Int→Int→Int→Int→Prop):Prop:=
 (n+4≤ys.length∧W4 (List.getD ys n 0) (List.getD ys (n+1) 0) (List.getD ys (n+2) 0) (List.getD ys (n+3) 0)∧V4 (List.getD ys n 0) (List.getD ys (n+1) 0) (List.getD ys (n+2) 0) (List.getD ys (n+3) 0)<qI)∧B4 (mpX (List.getD ys n 0) (List.getD ys (n+1) 0) (List.getD ys (n+2) 0) (List.getD ys (n+3) 0) 0) (mpX (List.getD ys n 0) (List.getD ys (n+1) 0) (List.getD ys (n+2) 0) (List.getD ys (n+3) 0) 1) (mpX (List.getD ys n 0) (List.getD ys (n+1) 0) (List.getD ys (n+2) 0) (List.getD ys (n+3) 0) 2) (mpX (List.getD ys n 0) (List.getD ys (n+1) 0) (List.getD ys (n+2) 0) (List.getD ys (n+3) 0) 3) fun a b c d=>B4 (mpY (List.getD ys n 0) (List.getD ys (n+1) 0) (List.getD ys (n+2) 0) (List.getD ys (n+3) 0) 0) (mpY (List.getD ys n 0) (List.getD ys (n+1) 0) (List.getD ys (n+2) 0) (List.getD ys (n+3) 0) 1) (mpY (List.getD ys n 0) (List.getD ys (n+1) 0) (List.getD ys (n+2) 0) (List.getD ys (n+3) 0) 2) (mpY (List.getD ys n 0) (List.getD ys (n+1) 0) (List.getD ys (n+2) 0) (List.getD ys (n+3) 0) 3) fun e f g h=>K a b c d e f g h
def HgB (m d:List Int) (P:SV→Prop):Prop:=
 (d.length>255→ByteArray→P (.tup [.agg [.int .u64 (.lit 0),.int .u64 (.lit 0),.int .u64 (.lit 0),.int .u64 (.lit 0),.int .u64 (.lit 0),.int .u64 (.lit 0),.int .u64 (.lit 0),.int .u64 (.lit 0)],.iface 126 (.ptr 545 (.lit 0))]))∧(d.length≤255→∀ws,ws=hfW (fun j=>mont (chN (expand m d 96) j)) 2→∀ys,ys=ws→
  ((0:Int)≤0∧(0:Int)<2)∧Mp4 ys 0 fun x0 x1 x2 x3 x4 x5 x6 x7=>((0:Int)≤1∧(1:Int)<2)∧Mp4 ys 4 fun x8 x9 x10 x11 x12 x13 x14 x15=>HgT x0 x1 x2 x3 x4 x5 x6 x7 x8 x9 x10 x11 x12 x13 x14 x15 P)
theorem vc_hg (msg dst:List Int) (l c l2 c2:Nat) (P:SV→Prop):(execF cxHg u9 Tryz.f18 64 [.slice 9 (.lit 0) (.sym l) (.sym c),.slice 17 (.lit 0) (.sym l2) (.sym c2)] (memL [(2,⟨true,.ints .u32 kL⟩),(9,⟨true,.ints .u8 msg⟩),(17,⟨true,.ints .u8 dst⟩)]) fun v _=>P v)=
 ((0+l*1≤msg.length∧0+l2*1≤dst.length)∧(kL=kL∧List.length (List.take (l*1) (List.drop 0 msg))=l∧List.length (List.take (l2*1) (List.drop 0 dst))=l2∧l≤c∧l2≤c2∧Bytes (List.take (l*1) (List.drop 0 msg))∧Bytes (List.take (l2*1) (List.drop 0 dst))∧l≤65536∧l2≤65536∧(1:Int)≤2∧(2:Int)≤170)∧
  HgB (List.take (l*1) (List.drop 0 msg)) (List.take (l2*1) (List.drop 0 dst)) P):=by kernel_rfl
theorem vc_hgn (dst:List Int) (l2 c2:Nat) (P:SV→Prop):(execF cxHg u9 Tryz.f18 64 [.val (.slice none 0 0),.slice 9 (.lit 0) (.sym l2) (.sym c2)] (memL [(2,⟨true,.ints .u32 kL⟩),(9,⟨true,.ints .u8 dst⟩)]) fun v _=>P v)=
 (0+l2*1≤dst.length∧(kL=kL∧List.length (List.take (l2*1) (List.drop 0 dst))=l2∧l2≤c2∧Bytes (List.take (l2*1) (List.drop 0 dst))∧l2≤65536∧(1:Int)≤2∧(2:Int)≤170)∧HgB [] (List.take (l2*1) (List.drop 0 dst)) P):=by kernel_rfl
theorem mpX_eq {A:Nat} (h:A<qN) (i:Nat):mpX (lm (mont A) 0) (lm (mont A) 1) (lm (mont A) 2) (lm (mont A) 3) i=lm (mont (mxN A)) i:=by
 unfold mpX
 rw[Vx (ws_q (mont_lt A)),mont_back,Nat.mod_eq_of_lt h]
theorem mpY_eq {A:Nat} (h:A<qN) (i:Nat):mpY (lm (mont A) 0) (lm (mont A) 1) (lm (mont A) 2) (lm (mont A) 3) i=lm (mont (myN A)) i:=by
 unfold mpY
 rw[Vx (ws_q (mont_lt A)),mont_back,Nat.mod_eq_of_lt h]
theorem spN_lt (ys:List Int) (j:Nat):spN ys j<qN:=by
 unfold spN
 exact Nat.mod_lt _ (by decide)
theorem td_full {xs:List Int} {n:Nat} (h:xs.length=n):List.take (n*1) (List.drop 0 xs)=xs:=by
 rw[List.drop_zero,Nat.mul_one]
 exact List.take_of_length_le (by omega)
theorem hfW_two (f:Nat→Nat):hfW f 2= [lm (f 0) 0,lm (f 0) 1,lm (f 0) 2,lm (f 0) 3,lm (f 1) 0,lm (f 1) 1,lm (f 1) 2,lm (f 1) 3]:=rfl
def sX (A B:Nat):Nat:=adX (mxN A) (myN A) (mxN B) (myN B)
def sY (A B:Nat):Nat:=adY (mxN A) (myN A) (mxN B) (myN B)
theorem hgT_walk {X0 Y0 X1 Y1:Nat} {x0 x1 x2 x3 x4 x5 x6 x7 x8 x9 x10 x11 x12 x13 x14 x15:Int} {P:SV→Prop} (hx:El x0 x1 x2 x3 (mont X0)) (hy:El x4 x5 x6 x7 (mont Y0)) (kx:El x8 x9 x10 x11 (mont X1)) (ky:El x12 x13 x14 x15 (mont Y1)) (a:X0<qN) (b:Y0<qN) (c:X1<qN) (d:Y1<qN)
  (hP:P (.tup [.agg [U (lm (mont (adX X0 Y0 X1 Y1)) 0),U (lm (mont (adX X0 Y0 X1 Y1)) 1),U (lm (mont (adX X0 Y0 X1 Y1)) 2),U (lm (mont (adX X0 Y0 X1 Y1)) 3),U (lm (mont (adY X0 Y0 X1 Y1)) 0),U (lm (mont (adY X0 Y0 X1 Y1)) 1),U (lm (mont (adY X0 Y0 X1 Y1)) 2),U (lm (mont (adY X0 Y0 X1 Y1)) 3)],.val .nilIface])):HgT x0 x1 x2 x3 x4 x5 x6 x7 x8 x9 x10 x11 x12 x13 x14 x15 P:=by
 refine ⟨X0,Y0,⟨hx,hy,a,b⟩,?_⟩
 intro j0 j1 j2 j3 j4 j5 j6 j7 j8 j9 j10 j11 hj
 refine ⟨X1,Y1,⟨kx,ky,c,d⟩,?_⟩
 intro k0 k1 k2 k3 k4 k5 k6 k7 k8 k9 k10 k11 hk
 refine ⟨_,_,⟨hk,hj⟩,?_⟩
 intro m0 m1 m2 m3 m4 m5 m6 m7 m8 m9 m10 m11 hm
 refine ⟨_,hm,?_⟩
 intro y0 y1 y2 y3 y4 y5 y6 y7 h1 h2
 obtain ⟨ex,ey⟩:=sum_eq a b c d
 rw[ex]at h1
 rw[ey]at h2
 rw[B4_eq,B4_eq]
 obtain ⟨rfl,rfl,rfl,rfl,_⟩:=h1
 obtain ⟨rfl,rfl,rfl,rfl,_⟩:=h2
 exact hP
theorem mp4_walk {ys:List Int} {n A:Nat} {K:Int→Int→Int→Int→Int→Int→Int→Int→Prop} (hA:A<qN) (h0:ys.getD n 0=lm (mont A) 0) (h1:ys.getD (n+1) 0=lm (mont A) 1) (h2:ys.getD (n+2) 0=lm (mont A) 2) (h3:ys.getD (n+3) 0=lm (mont A) 3) (hl:n+4≤ys.length)
  (hK:K (lm (mont (mxN A)) 0) (lm (mont (mxN A)) 1) (lm (mont (mxN A)) 2) (lm (mont (mxN A)) 3) (lm (mont (myN A)) 0) (lm (mont (myN A)) 1) (lm (mont (myN A)) 2) (lm (mont (myN A)) 3)):Mp4 ys n K:=by
 unfold Mp4
 rw[h0,h1,h2,h3]
 refine ⟨⟨hl,lm4_wd _,of_eq_true (Vlt (mont_lt A))⟩,?_⟩
 rw[B4_eq,mpX_eq hA,mpX_eq hA,mpX_eq hA,mpX_eq hA,B4_eq,mpY_eq hA,mpY_eq hA,mpY_eq hA,mpY_eq hA]
 exact hK
theorem hgB_walk {m d:List Int} {P:SV→Prop} (hd:d.length≤255) (hP:P (.tup [.agg [U (lm (mont (sX (spN (expand m d 96) 0) (spN (expand m d 96) 1))) 0),U (lm (mont (sX (spN (expand m d 96) 0) (spN (expand m d 96) 1))) 1),U (lm (mont (sX (spN (expand m d 96) 0) (spN (expand m d 96) 1))) 2),U (lm (mont (sX (spN (expand m d 96) 0) (spN (expand m d 96) 1))) 3),U (lm (mont (sY (spN (expand m d 96) 0) (spN (expand m d 96) 1))) 0),U (lm (mont (sY (spN (expand m d 96) 0) (spN (expand m d 96) 1))) 1),U (lm (mont (sY (spN (expand m d 96) 0) (spN (expand m d 96) 1))) 2),U (lm (mont (sY (spN (expand m d 96) 0) (spN (expand m d 96) 1))) 3)],.val .nilIface])):HgB m d P:=by
 refine ⟨fun h=>absurd h (by omega),fun _=> ?_⟩
 intro ws hw ys hy
 subst ys
 have e:∀j,mont (chN (expand m d 96) j)=mont (spN (expand m d 96) j):=fun j=>by
  unfold spN
  rw[mont_mod]
 rw[hfW_two,e,e]at hw
 have hX:=spN_lt (expand m d 96) 0
 have hY:=spN_lt (expand m d 96) 1
 generalize spN (expand m d 96) 0=A at *
 generalize spN (expand m d 96) 1=B at *
 subst ws
 refine ⟨⟨by decide,by decide⟩,mp4_walk hX rfl rfl rfl rfl (by simp) ⟨⟨by decide,by decide⟩,mp4_walk hY rfl rfl rfl rfl (by simp) ?_⟩⟩
 exact hgT_walk (El.of (mont_lt _)) (El.of (mont_lt _)) (El.of (mont_lt _)) (El.of (mont_lt _)) (mxN_lt _) (myN_lt _) (mxN_lt _) (myN_lt _) hP
def rHg:R0:=fun args l=>
 match args,l with
 | [.slice 9 (.lit 0) (.sym n1) (.sym c1),.slice 17 (.lit 0) (.sym n2) (.sym c2)],[(2,⟨true,.ints .u32 ks⟩),(9,⟨true,.ints .u8 msg⟩),(17,⟨true,.ints .u8 dst⟩)]=>
  some (some (ks=kL∧msg.length=n1∧dst.length=n2∧n1≤c1∧n2≤c2∧Bytes msg∧Bytes dst∧n1≤65536∧n2≤255),.tup [.agg [U (lm (mont (sX (spN (expand msg dst 96) 0) (spN (expand msg dst 96) 1))) 0),U (lm (mont (sX (spN (expand msg dst 96) 0) (spN (expand msg dst 96) 1))) 1),U (lm (mont (sX (spN (expand msg dst 96) 0) (spN (expand msg dst 96) 1))) 2),U (lm (mont (sX (spN (expand msg dst 96) 0) (spN (expand msg dst 96) 1))) 3),U (lm (mont (sY (spN (expand msg dst 96) 0) (spN (expand msg dst 96) 1))) 0),U (lm (mont (sY (spN (expand msg dst 96) 0) (spN (expand msg dst 96) 1))) 1),U (lm (mont (sY (spN (expand msg dst 96) 0) (spN (expand msg dst 96) 1))) 2),U (lm (mont (sY (spN (expand msg dst 96) 0) (spN (expand msg dst 96) 1))) 3)],.val .nilIface])
 | [.val (.slice none 0 0),.slice 9 (.lit 0) (.sym n2) (.sym c2)],[(2,⟨true,.ints .u32 ks⟩),(9,⟨true,.ints .u8 dst⟩)]=>
  some (some (ks=kL∧dst.length=n2∧n2≤c2∧Bytes dst∧n2≤255),.tup [.agg [U (lm (mont (sX (spN (expand [] dst 96) 0) (spN (expand [] dst 96) 1))) 0),U (lm (mont (sX (spN (expand [] dst 96) 0) (spN (expand [] dst 96) 1))) 1),U (lm (mont (sX (spN (expand [] dst 96) 0) (spN (expand [] dst 96) 1))) 2),U (lm (mont (sX (spN (expand [] dst 96) 0) (spN (expand [] dst 96) 1))) 3),U (lm (mont (sY (spN (expand [] dst 96) 0) (spN (expand [] dst 96) 1))) 0),U (lm (mont (sY (spN (expand [] dst 96) 0) (spN (expand [] dst 96) 1))) 1),U (lm (mont (sY (spN (expand [] dst 96) 0) (spN (expand [] dst 96) 1))) 2),U (lm (mont (sY (spN (expand [] dst 96) 0) (spN (expand [] dst 96) 1))) 3)],.val .nilIface])
 | _,_=>none
theorem hg_ok (args:List SV) (l:List (Nat×Reg)) (p:Ob) (v:SV) (h:rHg args l=some (p,v)) (hp:p.ok):∃U,execF cxHg U Tryz.f18 64 args (memL l) fun v' _=>v'=v:=by
 unfold rHg at h
 split at h
 ·rename_i n1 c1 n2 c2 ks msg dst
  simp only[Option.some.injEq,Prod.mk.injEq]at h
  obtain ⟨rfl,rfl⟩:=h
  obtain ⟨rfl,h1,h2,h3,h4,hb,hd,h5,h6⟩:=(show ks=kL∧msg.length=n1∧dst.length=n2∧n1≤c1∧n2≤c2∧Bytes msg∧Bytes dst∧n1≤65536∧n2≤255 from hp)
  refine ⟨u9,?_⟩
  rw[vc_hg,td_full h1,td_full h2]
  exact ⟨⟨by omega,by omega⟩,⟨rfl,h1,h2,h3,h4,hb,hd,h5,by omega,by decide,by decide⟩,hgB_walk (by omega) rfl⟩
 ·rename_i n2 c2 ks dst
  simp only[Option.some.injEq,Prod.mk.injEq]at h
  obtain ⟨rfl,rfl⟩:=h
  obtain ⟨rfl,h2,h4,hd,h6⟩:=(show ks=kL∧dst.length=n2∧n2≤c2∧Bytes dst∧n2≤255 from hp)
  refine ⟨u9,?_⟩
  rw[vc_hgn,td_full h2]
  exact ⟨by omega,⟨rfl,h2,h4,hd,by omega,by decide,by decide⟩,hgB_walk (by omega) rfl⟩
 ·cases h
def cHg:Rd Tryz.prog:=mkR mixed 18 Tryz.func18 (by decide) (by kernel_rfl) [1] [.sl 1 true,.sl 1 true] rHg hg_ok
def cxIh1:Cx Tryz.prog:= { rds:= [cHg,cTold],efs:= [cClone],eqs:= [] }
theorem vc_ih1 (msg dst:List Int) (l c l2 c2:Nat) (P:SV→Prop):(execF cxIh1 u9 Tryz.f8 64 [.slice 9 (.lit 0) (.sym l) (.sym c),.slice 17 (.lit 0) (.sym l2) (.sym c2)] (memL [(2,⟨true,.ints .u32 kL⟩),(9,⟨true,.ints .u8 msg⟩),
 (17,⟨true,.ints .u8 dst⟩)]) fun v _=>P v)=(0+l*1≤msg.length∧((List.length (List.take (l*1) (List.drop 0 msg))=l∧l≤549755813888)∧∀(d:List Int) (e:Nat),Rw d (List.take (l*1) (List.drop 0 msg)) l e→∀a:List
 Int,a=d→0+l2*1≤dst.length∧((List.length (List.take (l2*1) (List.drop 0 dst))=l2∧l2≤549755813888)∧∀(f:List Int) (g:Nat),Rw f (List.take (l2*1) (List.drop 0 dst)) l2 g→∀b:List Int,b=f→(((0+l*1≤
 a.length∧0+l2*1≤b.length)∧kL=kL∧List.length (List.take (l*1) (List.drop 0 a))=l∧List.length (List.take (l2*1) (List.drop 0 b))=l2∧l≤e∧l2≤g∧Bytes (List.take (l*1) (List.drop 0 a))∧Bytes (List.take (l2 *
 1) (List.drop 0 b))∧l≤65536∧l2≤255)∧L4 (mont (sX (spN (expand (List.take (l*1) (List.drop 0 a)) (List.take (l2*1) (List.drop 0 b)) 96) 0) (spN (expand (List.take (l*1) (List.drop 0 a)) (List.take (l2*1) (List.drop 0 b)) 96) 1))) fun h i j k=>L4 (mont (sY (spN (expand (List.take (l*1) (List.drop 0 a))
 (List.take (l2*1) (List.drop 0 b)) 96) 0) (spN (expand (List.take (l*1) (List.drop 0 a))
 (List.take (l2*1) (List.drop 0 b)) 96) 1))) fun m n o p=>(W4 h i j k∧W4 m n o p)∧L4 (mmul (N4 h i j k) 1) fun q r s t=>L4 (mmul (N4 m n o p) 1) fun u w x y=>P (.tup [.agg [U q,U r,U s,U t,U u,U w,U x,U y],.bool (.lit
 true)]))))):=by kernel_rfl
theorem vc_ih1n (dst:List Int) (l2 c2:Nat) (P:SV→Prop):(execF cxIh1 u9 Tryz.f8 64 [.val (.slice none 0 0),.slice 9 (.lit 0) (.sym l2) (.sym c2)] (memL [(2,⟨true,.ints .u32 kL⟩),(9,⟨true,.ints .u8 dst⟩)]) fun v _=>P v)=(0
 + l2*1≤dst.length∧((List.length (List.take (l2*1) (List.drop 0 dst))=l2∧l2≤549755813888)∧∀(b:List Int) (c:Nat),Rw b (List.take (l2*1) (List.drop 0 dst)) l2 c→∀a:List Int,a=b→((0+l2*1≤a.length∧kL=
 kL∧List.length (List.take (l2*1) (List.drop 0 a))=l2∧l2≤c∧Bytes (List.take (l2*1) (List.drop 0 a))∧l2≤255)∧L4 (mont (sX (spN (expand [] (List.take (l2*1) (List.drop 0 a)) 96) 0) (spN (expand [] (List.take (l2*1) (List.drop 0 a)) 96) 1))) fun d e f g=>L4 (mont (sY (spN (expand [] (List.take (l2*1) (List.drop 0 a)) 96) 0) (spN (expand [] (List.take (l2*1) (List.drop 0 a)) 96) 1))) fun h i j k=>(W4 d e f g∧W4 h i j k)∧L4 (mmul (N4 d e f g) 1) fun l m n o=>L4 (mmul (N4 h i j k) 1) fun p q r s=>P (.tup [.agg [U l,U m,U n,U o,U p,U q,U r,U s],
 .bool (.lit true)])))):=by kernel_rfl
theorem adX_lt {a b c d:Nat} (ha:a<qN) (hc:c<qN):adX a b c d<qN:=by
 unfold adX
 split
 ·exact hc
 ·split
  ·exact ha
  ·split
   ·exact spX_lt _ _ _
   ·split
    ·exact spX_lt _ _ _
    ·decide
theorem adY_lt {a b c d:Nat} (hb:b<qN) (hd:d<qN):adY a b c d<qN:=by
 unfold adY
 split
 ·exact hd
 ·split
  ·exact hb
  ·split
   ·exact spY_lt _ _ _ _
   ·split
    ·exact spY_lt _ _ _ _
    ·decide
theorem sX_lt (A B:Nat):sX A B<qN:=adX_lt (mxN_lt A) (mxN_lt B)
theorem sY_lt (A B:Nat):sY A B<qN:=adY_lt (myN_lt A) (myN_lt B)
theorem Rw.full {ys xs:List Int} {n cap:Nat} (h:Rw ys xs n cap):List.take (n*1) (List.drop 0 ys)=xs∧n≤cap∧n≤ys.length:=⟨h.take1,h.le,by rw[h.len];exact h.le⟩
theorem ih1_walk (msg dst:List Int) (l c l2 c2:Nat) (P:SV→Prop) (h1:msg.length=l) (h2:dst.length=l2) (hb:Bytes msg) (hd:Bytes dst) (h5:l≤65536) (h6:l2≤255)
  (hP:P (.tup [.agg [U (lm (sX (spN (expand msg dst 96) 0) (spN (expand msg dst 96) 1)) 0),U (lm (sX (spN (expand msg dst 96) 0) (spN (expand msg dst 96) 1)) 1),U (lm (sX (spN (expand msg dst 96) 0) (spN (expand msg dst 96) 1)) 2),U (lm (sX (spN (expand msg dst 96) 0) (spN (expand msg dst 96) 1)) 3),U (lm (sY (spN (expand msg dst 96) 0) (spN (expand msg dst 96) 1)) 0),U (lm (sY (spN (expand msg dst 96) 0) (spN (expand msg dst 96) 1)) 1),U (lm (sY (spN (expand msg dst 96) 0) (spN (expand msg dst 96) 1)) 2),U (lm (sY (spN (expand msg dst 96) 0) (spN (expand msg dst 96) 1)) 3)],.bool (.lit true)])):
  execF cxIh1 u9 Tryz.f8 64 [.slice 9 (.lit 0) (.sym l) (.sym c),.slice 17 (.lit 0) (.sym l2) (.sym c2)] (memL [(2,⟨true,.ints .u32 kL⟩),(9,⟨true,.ints .u8 msg⟩),(17,⟨true,.ints .u8 dst⟩)]) fun v _=>P v:=by
 rw[vc_ih1,td_full h1,td_full h2]
 refine ⟨by omega,⟨h1,by omega⟩,?_⟩
 intro ys cap r1 zs hz
 subst zs
 refine ⟨by omega,⟨h2,by omega⟩,?_⟩
 intro zs cap2 r2 ws hw
 subst ws
 obtain ⟨e1,e2,e3⟩:=r1.full
 obtain ⟨f1,f2,f3⟩:=r2.full
 rw[e1,f1]
 refine ⟨⟨⟨by omega,by omega⟩,rfl,h1,h2,e2,f2,hb,hd,h5,h6⟩,?_⟩
 generalize spN (expand msg dst 96) 0=A at *
 generalize spN (expand msg dst 96) 1=B at *
 rw[L4_eq,L4_eq]
 refine ⟨⟨lm4_wd _,lm4_wd _⟩,?_⟩
 rw[N4l (mont_lt _),N4l (mont_lt _),mont_back,mont_back,Nat.mod_eq_of_lt (sX_lt A B),Nat.mod_eq_of_lt (sY_lt A B),L4_eq,L4_eq]
 exact hP
theorem ih1n_walk (dst:List Int) (l2 c2:Nat) (P:SV→Prop) (h2:dst.length=l2) (hd:Bytes dst) (h6:l2≤255)
  (hP:P (.tup [.agg [U (lm (sX (spN (expand [] dst 96) 0) (spN (expand [] dst 96) 1)) 0),U (lm (sX (spN (expand [] dst 96) 0) (spN (expand [] dst 96) 1)) 1),U (lm (sX (spN (expand [] dst 96) 0) (spN (expand [] dst 96) 1)) 2),U (lm (sX (spN (expand [] dst 96) 0) (spN (expand [] dst 96) 1)) 3),U (lm (sY (spN (expand [] dst 96) 0) (spN (expand [] dst 96) 1)) 0),U (lm (sY (spN (expand [] dst 96) 0) (spN (expand [] dst 96) 1)) 1),U (lm (sY (spN (expand [] dst 96) 0) (spN (expand [] dst 96) 1)) 2),U (lm (sY (spN (expand [] dst 96) 0) (spN (expand [] dst 96) 1)) 3)],.bool (.lit true)])):
  execF cxIh1 u9 Tryz.f8 64 [.val (.slice none 0 0),.slice 9 (.lit 0) (.sym l2) (.sym c2)] (memL [(2,⟨true,.ints .u32 kL⟩),(9,⟨true,.ints .u8 dst⟩)]) fun v _=>P v:=by
 rw[vc_ih1n,td_full h2]
 refine ⟨by omega,⟨h2,by omega⟩,?_⟩
 intro zs cap2 r2 ws hw
 subst ws
 obtain ⟨f1,f2,f3⟩:=r2.full
 rw[f1]
 refine ⟨⟨by omega,rfl,h2,f2,hd,h6⟩,?_⟩
 generalize spN (expand [] dst 96) 0=A at *
 generalize spN (expand [] dst 96) 1=B at *
 rw[L4_eq,L4_eq]
 refine ⟨⟨lm4_wd _,lm4_wd _⟩,?_⟩
 rw[N4l (mont_lt _),N4l (mont_lt _),mont_back,mont_back,Nat.mod_eq_of_lt (sX_lt A B),Nat.mod_eq_of_lt (sY_lt A B),L4_eq,L4_eq]
 exact hP
def rIh1:R0:=fun args l=>
 match args,l with
 | [.slice 9 (.lit 0) (.sym n1) (.sym c1),.slice 17 (.lit 0) (.sym n2) (.sym c2)],[(2,⟨true,.ints .u32 ks⟩),(9,⟨true,.ints .u8 msg⟩),(17,⟨true,.ints .u8 dst⟩)]=>
  some (some (ks=kL∧msg.length=n1∧dst.length=n2∧Bytes msg∧Bytes dst∧n1≤65536∧n2≤255),.tup [.agg [U (lm (sX (spN (expand msg dst 96) 0) (spN (expand msg dst 96) 1)) 0),U (lm (sX (spN (expand msg dst 96) 0) (spN (expand msg dst 96) 1)) 1),U (lm (sX (spN (expand msg dst 96) 0) (spN (expand msg dst 96) 1)) 2),U (lm (sX (spN (expand msg dst 96) 0) (spN (expand msg dst 96) 1)) 3),U (lm (sY (spN (expand msg dst 96) 0) (spN (expand msg dst 96) 1)) 0),U (lm (sY (spN (expand msg dst 96) 0) (spN (expand msg dst 96) 1)) 1),U (lm (sY (spN (expand msg dst 96) 0) (spN (expand msg dst 96) 1)) 2),U (lm (sY (spN (expand msg dst 96) 0) (spN (expand msg dst 96) 1)) 3)],.bool (.lit true)])
 | [.val (.slice none 0 0),.slice 9 (.lit 0) (.sym n2) (.sym c2)],[(2,⟨true,.ints .u32 ks⟩),(9,⟨true,.ints .u8 dst⟩)]=>
  some (some (ks=kL∧dst.length=n2∧Bytes dst∧n2≤255),.tup [.agg [U (lm (sX (spN (expand [] dst 96) 0) (spN (expand [] dst 96) 1)) 0),U (lm (sX (spN (expand [] dst 96) 0) (spN (expand [] dst 96) 1)) 1),U (lm (sX (spN (expand [] dst 96) 0) (spN (expand [] dst 96) 1)) 2),U (lm (sX (spN (expand [] dst 96) 0) (spN (expand [] dst 96) 1)) 3),U (lm (sY (spN (expand [] dst 96) 0) (spN (expand [] dst 96) 1)) 0),U (lm (sY (spN (expand [] dst 96) 0) (spN (expand [] dst 96) 1)) 1),U (lm (sY (spN (expand [] dst 96) 0) (spN (expand [] dst 96) 1)) 2),U (lm (sY (spN (expand [] dst 96) 0) (spN (expand [] dst 96) 1)) 3)],.bool (.lit true)])
 | _,_=>none
theorem ih1_ok (args:List SV) (l:List (Nat×Reg)) (p:Ob) (v:SV) (h:rIh1 args l=some (p,v)) (hp:p.ok):∃U,execF cxIh1 U Tryz.f8 64 args (memL l) fun v' _=>v'=v:=by
 unfold rIh1 at h
 split at h
 ·rename_i n1 c1 n2 c2 ks msg dst
  simp only[Option.some.injEq,Prod.mk.injEq]at h
  obtain ⟨rfl,rfl⟩:=h
  obtain ⟨rfl,h1,h2,hb,hd,h5,h6⟩:=(show ks=kL∧msg.length=n1∧dst.length=n2∧Bytes msg∧Bytes dst∧n1≤65536∧n2≤255 from hp)
  exact ⟨u9,ih1_walk msg dst n1 c1 n2 c2 _ h1 h2 hb hd h5 h6 rfl⟩
 ·rename_i n2 c2 ks dst
  simp only[Option.some.injEq,Prod.mk.injEq]at h
  obtain ⟨rfl,rfl⟩:=h
  obtain ⟨rfl,h2,hd,h6⟩:=(show ks=kL∧dst.length=n2∧Bytes dst∧n2≤255 from hp)
  exact ⟨u9,ih1n_walk dst n2 c2 _ h2 hd h6 rfl⟩
 ·cases h
def cIh1:Rd Tryz.prog:=mkR mixed 8 Tryz.func8 (by decide) (by kernel_rfl) [1] [.sl 1 true,.sl 1 true] rIh1 ih1_ok
def cxAd1:Cx Tryz.prog:= { rds:= [cMl,cSb,cAd,cIm,cPP],efs:= [],eqs:= [eq27,eq23] }
theorem vc_ad1 (a0 a1 a2 a3 a4 a5 a6 a7 b0 b1 b2 b3 b4 b5 b6 b7:Int) (P:SV→Prop):(execF cxAd1 u9 Tryz.f9 64 [.agg [.int .u64 (.sym a0),.int .u64 (.sym a1),.int .u64 (.sym a2),.int .u64 (.sym a3),.int .u64 (.sym a4),.int .u64
 (.sym a5),.int .u64 (.sym a6),.int .u64 (.sym a7)],.agg [.int .u64 (.sym b0),.int .u64 (.sym b1),.int .u64 (.sym b2),.int .u64 (.sym b3),.int .u64 (.sym b4),.int .u64 (.sym b5),.int .u64 (.sym b6),.int .u64 (.sym b7)]] (memL [])
 fun v _=>P v)=(B4 a0 a1 a2 a3 fun x0 x1 x2 x3=>B4 a4 a5 a6 a7 fun x4 x5 x6 x7=>(decide ([x0,x1,x2,x3,x4,x5,x6,x7]= [0,0,0,0,0,0,0,0])=true→B4 b0 b1 b2 b3 fun x8 x9 fc fd=>B4 b4 b5 b6 b7 fun fe ff fg fh=>P
 (.agg [U x8,U x9,U fc,U fd,U fe,U ff,U fg,U fh]))∧(decide ([x0,x1,x2,x3,x4,x5,x6,x7]= [0,0,0,0,0,0,0,0])=false→B4 b0 b1 b2 b3 fun cl cm cn co=>B4 b4 b5 b6 b7 fun cp cq cr cs=>(decide ([cl,cm,cn,co,cp,
 cq,cr,cs]= [0,0,0,0,0,0,0,0])=true→B4 a0 a1 a2 a3 fun fi fj fk fl=>B4 a4 a5 a6 a7 fun fm fn fo fp=>P (.agg [U fi,U fj,U fk,U fl,U fm,U fn,U fo,U fp]))∧(decide ([cl,cm,cn,co,cp,cq,cr,cs]= [0,0,0,0,0,
 0,0,0])=false→B4 a0 a1 a2 a3 fun ct cu cv cw=>B4 b0 b1 b2 b3 fun cx cy cz c0=>(Bool.not (decide ([ct,cu,cv,cw]= [cx,cy,cz,c0]))=true→B4 b4 b5 b6 b7 fun a b c d=>B4 a4 a5 a6 a7 fun e f g h=>((W4 a b c d∧W4 e f g
 h)∧V4 a b c d<qI∧V4 e f g h<qI)∧L4 ((N4 a b c d+(qN-N4 e f g h))%qN) fun c1 c2 c3 c4=>B4 b0 b1 b2 b3 fun i j k l=>B4 a0 a1 a2 a3 fun m n o p=>((W4 i j k l∧W4 m n o p)∧V4 i j k l<qI∧V4 m n o p<qI)∧L4 ((N4 i
 j k l+(qN-N4 m n o p))%qN) fun q r s t=>((W4 q r s t∧W4 4332616871279656263 10917124144477883021 13281191951274694749 3486998266802970665)∧V4 q r s t<qI∧qI=qI)∧L4 (inv0 (N4 q r s t)) fun c5 c6 c7 c8=>(W4 c1 c2 c3 c4∧
 W4 c5 c6 c7 c8)∧L4 (N4 c1 c2 c3 c4*N4 c5 c6 c7 c8%qN) fun u w x y=>B4 u w x y fun c9 da db dc=>B4 u w x y fun dd de df dg=>(W4 c9 da db dc∧W4 dd de df dg)∧L4 (N4 c9 da db dc*N4 dd de df dg%qN) fun z A B C=>B4 a0 a1 a2
 a3 fun D E F G=>((W4 z A B C∧W4 D E F G)∧V4 z A B C<qI∧V4 D E F G<qI)∧L4 ((N4 z A B C+(qN-N4 D E F G))%qN) fun H I J K=>B4 b0 b1 b2 b3 fun L M N O=>((W4 H I J K∧W4 L M N O)∧V4 H I J K<qI∧V4 L M N O<qI)∧
 L4 ((N4 H I J K+(qN-N4 L M N O))%qN) fun dh di dj dk=>B4 dh di dj dk fun fq fr fs ft=>B4 u w x y fun dl dm dn dp=>B4 a0 a1 a2 a3 fun Q R S T=>B4 dh di dj dk fun V X Y Z=>((W4 Q R S T∧W4 V X Y Z)∧V4 Q R S T<qI∧V4 V X
 Y Z<qI)∧L4 ((N4 Q R S T+(qN-N4 V X Y Z))%qN) fun dq dr ds dt=>(W4 dl dm dn dp∧W4 dq dr ds dt)∧L4 (N4 dl dm dn dp*N4 dq dr ds dt%qN) fun aa ab ac ad=>B4 a4 a5 a6 a7 fun ae af ag ah=>((W4 aa ab ac ad∧W4 ae af ag ah)
 ∧V4 aa ab ac ad<qI∧V4 ae af ag ah<qI)∧L4 ((N4 aa ab ac ad+(qN-N4 ae af ag ah))%qN) fun fu fv fw fx=>P (.agg [U fq,U fr,U fs,U ft,U fu,U fv,U fw,U fx]))∧(Bool.not (decide ([ct,cu,cv,cw]= [cx,cy,cz,c0]))=
 false→B4 a4 a5 a6 a7 fun du dv dw dx=>B4 b4 b5 b6 b7 fun dy dz d0 d1=>(decide ([du,dv,dw,dx]= [dy,dz,d0,d1])=true→B4 a4 a5 a6 a7 fun d2 d3 d4 d5=>(Bool.not (decide ([d2,d3,d4,d5]= [0,0,0,0]))=true→B4 a0 a1 a2
 a3 fun d6 d7 d8 d9=>B4 a0 a1 a2 a3 fun ea eb ec ed=>(W4 d6 d7 d8 d9∧W4 ea eb ec ed)∧L4 (N4 d6 d7 d8 d9*N4 ea eb ec ed%qN) fun ee ef eg eh=>(W4 3 0 0 0∧W4 ee ef eg eh)∧L4 (3*N4 ee ef eg eh%qN) fun ei ej ek el=>B4 a4
 a5 a6 a7 fun ai aj ak al=>B4 a4 a5 a6 a7 fun am an ao ap=>((W4 ai aj ak al∧W4 am an ao ap)∧V4 ai aj ak al<qI∧V4 am an ao ap<qI)∧L4 (A4 ai aj ak al am an ao ap) fun aq ar au av=>((W4 aq ar au av∧W4 4332616871279656263
 10917124144477883021 13281191951274694749 3486998266802970665)∧V4 aq ar au av<qI∧qI=qI)∧L4 (inv0 (N4 aq ar au av)) fun em en eo ep=>(W4 ei ej ek el∧W4 em en eo ep)∧L4 (N4 ei ej ek el*N4 em en eo ep%qN) fun aw ax ay az
 =>B4 aw ax ay az fun eq er es et=>B4 aw ax ay az fun eu ev ew ex=>(W4 eq er es et∧W4 eu ev ew ex)∧L4 (N4 eq er es et*N4 eu ev ew ex%qN) fun a8 a9 ba bb=>B4 a0 a1 a2 a3 fun bc bd be bf=>((W4 a8 a9 ba bb∧W4 bc bd be bf)∧
 V4 a8 a9 ba bb<qI∧V4 bc bd be bf<qI)∧L4 ((N4 a8 a9 ba bb+(qN-N4 bc bd be bf))%qN) fun bg bh bi bj=>B4 b0 b1 b2 b3 fun bk bl bm bn=>((W4 bg bh bi bj∧W4 bk bl bm bn)∧V4 bg bh bi bj<qI∧V4 bk bl bm bn<qI)∧L4 ((N4
 bg bh bi bj+(qN-N4 bk bl bm bn))%qN) fun ey ez e0 e1=>B4 ey ez e0 e1 fun fy fz f0 f1=>B4 aw ax ay az fun e2 e3 e4 e5=>B4 a0 a1 a2 a3 fun bo bp bq br=>B4 ey ez e0 e1 fun bs bt bu bv=>((W4 bo bp bq br∧W4 bs bt bu bv)∧V4
 bo bp bq br<qI∧V4 bs bt bu bv<qI)∧L4 ((N4 bo bp bq br+(qN-N4 bs bt bu bv))%qN) fun e6 e7 e8 e9=>(W4 e2 e3 e4 e5∧W4 e6 e7 e8 e9)∧L4 (N4 e2 e3 e4 e5*N4 e6 e7 e8 e9%qN) fun bw bx bz b8=>B4 a4 a5 a6 a7 fun b9 ca cb cc
 =>((W4 bw bx bz b8∧W4 b9 ca cb cc)∧V4 bw bx bz b8<qI∧V4 b9 ca cb cc<qI)∧L4 ((N4 bw bx bz b8+(qN-N4 b9 ca cb cc))%qN) fun f2 f3 f4 f5=>P (.agg [U fy,U fz,U f0,U f1,U f2,U f3,U f4,U f5]))∧(Bool.not (decide ([d2,
 d3,d4,d5]= [0,0,0,0]))=false→P (.agg [.int .u64 (.lit 0),.int .u64 (.lit 0),.int .u64 (.lit 0),.int .u64 (.lit 0),.int .u64 (.lit 0),.int .u64 (.lit 0),.int .u64 (.lit 0),.int .u64 (.lit 0)])))∧(decide ([du,dv,dw,dx]
 = [dy,dz,d0,d1])=false→P (.agg [.int .u64 (.lit 0),.int .u64 (.lit 0),.int .u64 (.lit 0),.int .u64 (.lit 0),.int .u64 (.lit 0),.int .u64 (.lit 0),.int .u64 (.lit 0),.int .u64 (.lit 0)])))))):=by kernel_rfl
theorem Ws.same {a b c d a' b' c' d':Int} {x y:Nat} (h:Ws a b c d x) (k:Ws a' b' c' d' y): [a,b,c,d]= [a',b',c',d']↔x=y:=by
 have e:=V4_inj h.wd.1 h.wd.2.1 h.wd.2.2.1 h.wd.2.2.2 k.wd.1 k.wd.2.1 k.wd.2.2.1 k.wd.2.2.2
 rw[h.val,k.val]at e
 simp only[List.cons.injEq,and_true]
 rw[←e]
 omega
theorem app_eq {a b c d e f g h a' b' c' d' e' f' g' h':Int}: [a,b,c,d,e,f,g,h]= [a',b',c',d',e',f',g',h']↔[a,b,c,d]= [a',b',c',d']∧[e,f,g,h]= [e',f',g',h']:=by
 simp only[List.cons.injEq,and_true,and_assoc]
theorem z_ws:Ws 0 0 0 0 0:=⟨by decide,by decide,by decide,by decide,by decide⟩
theorem lm_z (i:Nat):lm 0 i=0:=by unfold lm;simp
theorem ad1_walk {X0 Y0 X1 Y1:Nat} {a0 a1 a2 a3 a4 a5 a6 a7 b0 b1 b2 b3 b4 b5 b6 b7:Int} {P:SV→Prop} (ha:Ws a0 a1 a2 a3 X0) (hb:Ws a4 a5 a6 a7 Y0) (hc:Ws b0 b1 b2 b3 X1) (hd:Ws b4 b5 b6 b7 Y1) (la:X0<qN) (lb:Y0<qN) (lc:X1<qN) (ld:Y1<qN)
  (hP:P (.agg [U (lm (adX X0 Y0 X1 Y1) 0),U (lm (adX X0 Y0 X1 Y1) 1),U (lm (adX X0 Y0 X1 Y1) 2),U (lm (adX X0 Y0 X1 Y1) 3),U (lm (adY X0 Y0 X1 Y1) 0),U (lm (adY X0 Y0 X1 Y1) 1),U (lm (adY X0 Y0 X1 Y1) 2),U (lm (adY X0 Y0 X1 Y1) 3)])) (hZ:adX X0 Y0 X1 Y1=0→adY X0 Y0 X1 Y1=0→P (.agg [.int .u64 (.lit 0),.int .u64 (.lit 0),.int .u64 (.lit 0),.int .u64 (.lit 0),.int .u64 (.lit 0),.int .u64 (.lit 0),.int .u64 (.lit 0),.int .u64 (.lit 0)])):
  execF cxAd1 u9 Tryz.f9 64 [.agg [.int .u64 (.sym a0),.int .u64 (.sym a1),.int .u64 (.sym a2),.int .u64 (.sym a3),.int .u64 (.sym a4),.int .u64 (.sym a5),.int .u64 (.sym a6),.int .u64 (.sym a7)],.agg [.int .u64 (.sym b0),.int .u64 (.sym b1),.int .u64 (.sym b2),.int .u64 (.sym b3),.int .u64 (.sym b4),.int .u64 (.sym b5),.int .u64 (.sym b6),.int .u64 (.sym b7)]] (memL []) fun v _=>P v:=by
 rw[vc_ad1]
 have wq:W4 4332616871279656263 10917124144477883021 13281191951274694749 3486998266802970665=True:=eq_true q_ws.wd
 have wa:W4 a0 a1 a2 a3=True:=eq_true ha.wd
 have na:N4 a0 a1 a2 a3=X0:=Vx ha
 have va:(V4 a0 a1 a2 a3<qI)=True:=eq_true (by rw[ha.val,qI_eq];omega)
 have wb:W4 a4 a5 a6 a7=True:=eq_true hb.wd
 have nb:N4 a4 a5 a6 a7=Y0:=Vx hb
 have vb:(V4 a4 a5 a6 a7<qI)=True:=eq_true (by rw[hb.val,qI_eq];omega)
 have wc:W4 b0 b1 b2 b3=True:=eq_true hc.wd
 have nc:N4 b0 b1 b2 b3=X1:=Vx hc
 have vc:(V4 b0 b1 b2 b3<qI)=True:=eq_true (by rw[hc.val,qI_eq];omega)
 have wd:W4 b4 b5 b6 b7=True:=eq_true hd.wd
 have nd:N4 b4 b5 b6 b7=Y1:=Vx hd
 have vd:(V4 b4 b5 b6 b7<qI)=True:=eq_true (by rw[hd.val,qI_eq];omega)
 have z1: [a0,a1,a2,a3,a4,a5,a6,a7]= [0,0,0,0,0,0,0,0]↔X0=0∧Y0=0:=by rw[app_eq,ha.same z_ws,hb.same z_ws]
 have z2: [b0,b1,b2,b3,b4,b5,b6,b7]= [0,0,0,0,0,0,0,0]↔X1=0∧Y1=0:=by rw[app_eq,hc.same z_ws,hd.same z_ws]
 have z3: [a0,a1,a2,a3]= [b0,b1,b2,b3]↔X0=X1:=ha.same hc
 have z4: [a4,a5,a6,a7]= [b4,b5,b6,b7]↔Y0=Y1:=hb.same hd
 have z5: [a4,a5,a6,a7]= [0,0,0,0]↔Y0=0:=hb.same z_ws
 simp only[wa,wb,wc,wd,wq,na,nb,nc,nd,va,vb,vc,vd,A4_eq,↓L4_eq,↓B4_eq,N4q,N4i,W4l,W4_3,Vq_lt,true_and,and_self,z1,z2,z3,z4,z5,decide_eq_true_eq,decide_eq_false_iff_not,Bool.not_eq_true',Bool.not_eq_false']
 refine ⟨fun h=> ?_,fun h=>⟨fun h2=> ?_,fun h2=>⟨fun h3=> ?_,fun h3=>⟨fun h4=>⟨fun h5=> ?_,fun h5=> ?_⟩,fun h4=> ?_⟩⟩⟩⟩
 ·have e:adX X0 Y0 X1 Y1=X1:=by unfold adX;rw[if_pos h]
  have f:adY X0 Y0 X1 Y1=Y1:=by unfold adY;rw[if_pos h]
  rw[e,f]at hP
  rw[hc.a,hc.b,hc.c,hc.d,hd.a,hd.b,hd.c,hd.d]
  exact hP
 ·have e:adX X0 Y0 X1 Y1=X0:=by unfold adX;rw[if_neg h,if_pos h2]
  have f:adY X0 Y0 X1 Y1=Y0:=by unfold adY;rw[if_neg h,if_pos h2]
  rw[e,f]at hP
  rw[ha.a,ha.b,ha.c,ha.d,hb.a,hb.b,hb.c,hb.d]
  exact hP
 ·have e:adX X0 Y0 X1 Y1=spX (slC X0 Y0 X1 Y1) X0 X1:=by unfold adX;rw[if_neg h,if_neg h2,if_pos h3]
  have f:adY X0 Y0 X1 Y1=spY (slC X0 Y0 X1 Y1) X0 Y0 X1:=by unfold adY;rw[if_neg h,if_neg h2,if_pos h3]
  rw[e,f]at hP
  exact hP
 all_goals have n3:¬(X0≠X1):=fun k=>k h3
 ·have h5:Y0=Y1∧Y0≠0:=⟨h4,h5⟩
  have e:adX X0 Y0 X1 Y1=spX (slT X0 Y0) X0 X1:=by unfold adX;rw[if_neg h,if_neg h2,if_neg n3,if_pos h5]
  have f:adY X0 Y0 X1 Y1=spY (slT X0 Y0) X0 Y0 X1:=by unfold adY;rw[if_neg h,if_neg h2,if_neg n3,if_pos h5]
  rw[e,f]at hP
  exact hP
 all_goals
  have n5:¬(Y0=Y1∧Y0≠0):=fun k=>by first | exact k.2 h5 | exact h4 k.1
  refine hZ ?_ ?_
  ·unfold adX
   rw[if_neg h,if_neg h2,if_neg n3,if_neg n5]
  ·unfold adY
   rw[if_neg h,if_neg h2,if_neg n3,if_neg n5]
def rAd1:R0:=fun args l=>
 match args,l with
 | [.agg [.int .u64 (.sym a0),.int .u64 (.sym a1),.int .u64 (.sym a2),.int .u64 (.sym a3),.int .u64 (.sym a4),.int .u64 (.sym a5),.int .u64 (.sym a6),.int .u64 (.sym a7)],.agg [.int .u64 (.sym b0),.int .u64 (.sym b1),.int .u64 (.sym b2),.int .u64 (.sym b3),.int .u64 (.sym b4),.int .u64 (.sym b5),.int .u64 (.sym b6),.int .u64 (.sym b7)]],[]=>some (some ((W4 a0 a1 a2 a3∧W4 a4 a5 a6 a7∧W4 b0 b1 b2 b3∧W4 b4 b5 b6 b7)∧V4 a0 a1 a2 a3<21888242871839275222246405745257275088696311157297823662689037894645226208583∧V4 a4 a5 a6 a7<21888242871839275222246405745257275088696311157297823662689037894645226208583∧V4 b0 b1 b2 b3<21888242871839275222246405745257275088696311157297823662689037894645226208583∧V4 b4 b5 b6 b7<21888242871839275222246405745257275088696311157297823662689037894645226208583),.agg [U (lm (adX ((V4 a0 a1 a2 a3).toNat) ((V4 a4 a5 a6 a7).toNat) ((V4 b0 b1 b2 b3).toNat) ((V4 b4 b5 b6 b7).toNat)) 0),U (lm (adX ((V4 a0 a1 a2 a3).toNat) ((V4 a4 a5 a6 a7).toNat) ((V4 b0 b1 b2 b3).toNat) ((V4 b4 b5 b6 b7).toNat)) 1),U (lm (adX ((V4 a0 a1 a2 a3).toNat) ((V4 a4 a5 a6 a7).toNat) ((V4 b0 b1 b2 b3).toNat) ((V4 b4 b5 b6 b7).toNat)) 2),U (lm (adX ((V4 a0 a1 a2 a3).toNat) ((V4 a4 a5 a6 a7).toNat) ((V4 b0 b1 b2 b3).toNat) ((V4 b4 b5 b6 b7).toNat)) 3),U (lm (adY ((V4 a0 a1 a2 a3).toNat) ((V4 a4 a5 a6 a7).toNat) ((V4 b0 b1 b2 b3).toNat) ((V4 b4 b5 b6 b7).toNat)) 0),U (lm (adY ((V4 a0 a1 a2 a3).toNat) ((V4 a4 a5 a6 a7).toNat) ((V4 b0 b1 b2 b3).toNat) ((V4 b4 b5 b6 b7).toNat)) 1),U (lm (adY ((V4 a0 a1 a2 a3).toNat) ((V4 a4 a5 a6 a7).toNat) ((V4 b0 b1 b2 b3).toNat) ((V4 b4 b5 b6 b7).toNat)) 2),U (lm (adY ((V4 a0 a1 a2 a3).toNat) ((V4 a4 a5 a6 a7).toNat) ((V4 b0 b1 b2 b3).toNat) ((V4 b4 b5 b6 b7).toNat)) 3)])
 | _,_=>none
theorem ad1_ok (args:List SV) (l:List (Nat×Reg)) (p:Ob) (v:SV) (h:rAd1 args l=some (p,v)) (hp:p.ok):∃U,execF cxAd1 U Tryz.f9 64 args (memL l) fun v' _=>∀β u,Den β v' u→Den β v u:=by
 unfold rAd1 at h
 split at h
 ·rename_i a0 a1 a2 a3 a4 a5 a6 a7 b0 b1 b2 b3 b4 b5 b6 b7
  simp only[Option.some.injEq,Prod.mk.injEq]at h
  obtain ⟨rfl,rfl⟩:=h
  obtain ⟨⟨wa,wb,wc,wd⟩,la,lb,lc,ld⟩:=(show (W4 a0 a1 a2 a3∧W4 a4 a5 a6 a7∧W4 b0 b1 b2 b3∧W4 b4 b5 b6 b7)∧V4 a0 a1 a2 a3<21888242871839275222246405745257275088696311157297823662689037894645226208583∧V4 a4 a5 a6 a7<21888242871839275222246405745257275088696311157297823662689037894645226208583∧V4 b0 b1 b2 b3<21888242871839275222246405745257275088696311157297823662689037894645226208583∧V4 b4 b5 b6 b7<21888242871839275222246405745257275088696311157297823662689037894645226208583 from hp)
  have A:=ws_of wa.1 wa.2.1 wa.2.2.1 wa.2.2.2
  have B:=ws_of wb.1 wb.2.1 wb.2.2.1 wb.2.2.2
  have C:=ws_of wc.1 wc.2.1 wc.2.2.1 wc.2.2.2
  have D:=ws_of wd.1 wd.2.1 wd.2.2.1 wd.2.2.2
  have ea:=Ws.val A
  have eb:=Ws.val B
  have ec:=Ws.val C
  have ed:=Ws.val D
  refine ⟨u9,ad1_walk A B C D (by unfold qN;omega) (by unfold qN;omega) (by unfold qN;omega) (by unfold qN;omega) (fun _ _ h=>h) fun e f=> ?_⟩
  rw[e,f]
  intro β u h
  simp only[Den,DenL,lm_z]at h ⊢
  exact h
 ·cases h
def cAd1:Rd Tryz.prog:=mkQ mixed 9 Tryz.func9 (by decide) (by kernel_rfl) [] [.num,.num] rAd1 ad1_ok
def cxLh:Cx Tryz.prog:= { rds:= [cIh1,cMapa,cAd1],efs:= [cSHf],eqs:= [eq27] }
theorem vc_lh (msg dst:List Int) (l c l2 c2:Nat) (P:SV→Prop):(execF cxLh u9 Tryz.f4 64 [.slice 9 (.lit 0) (.sym l) (.sym c),.slice 17 (.lit 0)
 (.sym l2) (.sym c2)] (memL [(2,⟨true,.ints .u32 kL⟩),(9,⟨true,.ints .u8 msg⟩),(17,⟨true,.ints .u8 dst⟩)]) fun v _=>P v)=(B1 ((l:Nat):Int) fun x0=>
 ((((decide (x0>2147483647))=Bool.true)→(P (SV.bool (B.lit Bool.true))))∧(((decide (x0>2147483647))=Bool.false)→(B1 ((l2:Nat):Int) fun x1=>
 ((((decide (x1>2147483647))=Bool.true)→(P (SV.bool (B.lit Bool.true))))∧(((decide (x1>2147483647))=Bool.false)→(B1 ((l:Nat):Int) fun x2=>
 ((((decide (x2>4096))=Bool.true)→(P (SV.bool (B.lit Bool.true))))∧(((decide (x2>4096))=Bool.false)→(B1 ((l2:Nat):Int) fun x3=>((((x3==0)=Bool.true)
 →(P (SV.bool (B.lit Bool.true))))∧(((x3==0)=Bool.false)→(B1 ((l2:Nat):Int) fun x4=>((((decide (x4>255))=Bool.true)→(P (SV.bool (B.lit Bool.true))))
 ∧(((decide (x4>255))=Bool.false)→(((((0+(l*1))≤(List.length msg))∧((0+(l2*1))≤(List.length dst)))∧((kL=kL)∧(((List.length (List.take
 (l*1) (List.drop 0 msg)))=l)∧(((List.length (List.take (l2*1) (List.drop 0 dst)))=l2)∧((Bytes (List.take (l*1) (List.drop 0 msg)))∧((Bytes
 (List.take (l2*1) (List.drop 0 dst)))∧((l≤65536)∧(l2≤255))))))))∧((((0+(l*1))≤(List.length msg))∧((0+(l2*1))≤(List.length dst)))
 ∧((((List.length (List.take (l*1) (List.drop 0 msg)))=l)∧(((List.length (List.take (l2*1) (List.drop 0 dst)))=l2)∧((Bytes (List.take (l*1)
 (List.drop 0 msg)))∧((Bytes (List.take (l2*1) (List.drop 0 dst)))∧((l≤65536)∧((l2≤65536)∧(((0:Int)≤2)∧((2:Int)≤170))))))))∧(∀
 (o5:(List Int)),(∀(cap6:Nat),((2≤cap6)→(((List.length o5)=(cap6*4))→(((List.take 8 o5)=(hfW (spN (expand (List.take (N.val (N.mul (N.sym l) 1))
 (List.drop (N.val (N.lit 0)) msg)) (List.take (N.val (N.mul (N.sym l2) 1)) (List.drop (N.val (N.lit 0)) dst)) (Int.toNat ((A.val (A.lit 2))*48)))) 2))
 →(∀(ys7:(List Int)),((ys7=o5)→(L4 (sX (spN (expand (List.take (l*1) (List.drop 0 msg)) (List.take (l2*1) (List.drop 0 dst)) 96) 0) (spN (expand
 (List.take (l*1) (List.drop 0 msg)) (List.take (l2*1) (List.drop 0 dst)) 96) 1)) fun x8 x9 x10 x11=>L4 (sY (spN (expand (List.take (l*1) (List.drop 0 msg))
 (List.take (l2*1) (List.drop 0 dst)) 96) 0) (spN (expand (List.take (l*1) (List.drop 0 msg)) (List.take (l2*1) (List.drop 0 dst)) 96) 1)) fun x12 x13 x14 x15=>
 ((((0:Int)≤0)∧((0:Int)<2))∧((4≤(List.length ys7))∧(B4 (List.getD ys7 0 0) (List.getD ys7 1 0) (List.getD ys7 2 0) (List.getD ys7 3 0) fun x16 x17 x18 x19=>
 (((W4 x16 x17 x18 x19)∧((V4 x16 x17 x18 x19)<qI))∧(L4 (mxN (N4 x16 x17 x18 x19)) fun x20 x21 x22 x23=>L4 (myN (N4 x16 x17 x18 x19)) fun x24 x25 x26 x27=>
 ((((0:Int)≤1)∧((1:Int)<2))∧((8≤(List.length ys7))∧(B4 (List.getD ys7 4 0) (List.getD ys7 5 0) (List.getD ys7 6 0) (List.getD ys7 7 0) fun x28 x29 x30 x31=>
 (((W4 x28 x29 x30 x31)∧((V4 x28 x29 x30 x31)<qI))∧(L4 (mxN (N4 x28 x29 x30 x31)) fun x32 x33 x34 x35=>L4 (myN (N4 x28 x29 x30 x31)) fun x36 x37 x38 x39=>
 ((((W4 x20 x21 x22 x23)∧((W4 x24 x25 x26 x27)∧((W4 x32 x33 x34 x35)∧(W4 x36 x37 x38 x39))))∧(((V4 x20 x21 x22 x23)<qI)∧(((V4 x24 x25 x26 x27)<qI)
 ∧(((V4 x32 x33 x34 x35)<qI)∧((V4 x36 x37 x38 x39)<qI)))))∧(L4 (adX (N4 x20 x21 x22 x23) (N4 x24 x25 x26 x27) (N4 x32 x33 x34 x35) (N4 x36 x37 x38 x39)) fun x40 x41 x42 x43=>L4
 (adY (N4 x20 x21 x22 x23) (N4 x24 x25 x26 x27) (N4 x32 x33 x34 x35) (N4 x36 x37 x38 x39)) fun x44 x45 x46 x47=>(P (SV.bool (B.sym (decide ([x8,x9,x10,x11,x12,x13,x14,x15]= [x40,x41,x42,x43,x44,x45,x46,x47]))))))))))))))))))))))))))))))))))))))))))):=by kernel_rfl
theorem vc_lhn (dst:List Int) (l2 c2:Nat) (P:SV→Prop):(execF cxLh u9 Tryz.f4 64 [.val (.slice none 0 0),.slice 17 (.lit 0) (.sym l2) (.sym c2)]
 (memL [(2,⟨true,.ints .u32 kL⟩),(17,⟨true,.ints .u8 dst⟩)]) fun v _=>P v)=(B1 ((l2:Nat):Int) fun x0=>((((decide (x0>2147483647))=Bool.true)
 →(P (SV.bool (B.lit Bool.true))))∧(((decide (x0>2147483647))=Bool.false)→(B1 ((l2:Nat):Int) fun x1=>((((x1==0)=Bool.true)→(P (SV.bool
 (B.lit Bool.true))))∧(((x1==0)=Bool.false)→(B1 ((l2:Nat):Int) fun x2=>((((decide (x2>255))=Bool.true)→(P (SV.bool (B.lit Bool.true))))
 ∧(((decide (x2>255))=Bool.false)→((((0+(l2*1))≤(List.length dst))∧((kL=kL)∧(((List.length (List.take (l2*1) (List.drop 0 dst)))=l2)
 ∧((Bytes (List.take (l2*1) (List.drop 0 dst)))∧(l2≤255)))))∧(((0+(l2*1))≤(List.length dst))∧((((List.length (List.take (l2*1) (List.drop 0 dst)))=l2)
 ∧((Bytes (List.take (l2*1) (List.drop 0 dst)))∧((l2≤65536)∧(((0:Int)≤2)∧((2:Int)≤170)))))∧(∀(o3:(List Int)),(∀(cap4:Nat),((2≤cap4)
 →(((List.length o3)=(cap4*4))→(((List.take 8 o3)=(hfW (spN (expand [] (List.take (N.val (N.mul (N.sym l2) 1)) (List.drop (N.val (N.lit 0)) dst))
 (Int.toNat ((A.val (A.lit 2))*48)))) 2))→(∀(ys5:(List Int)),((ys5=o3)→(L4 (sX (spN (expand [] (List.take (l2*1) (List.drop 0 dst)) 96) 0)
 (spN (expand [] (List.take (l2*1) (List.drop 0 dst)) 96) 1)) fun x6 x7 x8 x9=>L4 (sY (spN (expand [] (List.take (l2*1) (List.drop 0 dst)) 96) 0)
 (spN (expand [] (List.take (l2*1) (List.drop 0 dst)) 96) 1)) fun x10 x11 x12 x13=>((((0:Int)≤0)∧((0:Int)<2))∧((4≤(List.length ys5))∧
 (B4 (List.getD ys5 0 0) (List.getD ys5 1 0) (List.getD ys5 2 0) (List.getD ys5 3 0) fun x14 x15 x16 x17=>(((W4 x14 x15 x16 x17)∧((V4 x14 x15 x16 x17)<qI))
 ∧(L4 (mxN (N4 x14 x15 x16 x17)) fun x18 x19 x20 x21=>L4 (myN (N4 x14 x15 x16 x17)) fun x22 x23 x24 x25=>((((0:Int)≤1)∧((1:Int)<2))∧((8≤
 (List.length ys5))∧(B4 (List.getD ys5 4 0) (List.getD ys5 5 0) (List.getD ys5 6 0) (List.getD ys5 7 0) fun x26 x27 x28 x29=>(((W4 x26 x27 x28 x29)
 ∧((V4 x26 x27 x28 x29)<qI))∧(L4 (mxN (N4 x26 x27 x28 x29)) fun x30 x31 x32 x33=>L4 (myN (N4 x26 x27 x28 x29)) fun x34 x35 x36 x37=>((((W4 x18 x19 x20 x21)
 ∧((W4 x22 x23 x24 x25)∧((W4 x30 x31 x32 x33)∧(W4 x34 x35 x36 x37))))∧(((V4 x18 x19 x20 x21)<qI)∧(((V4 x22 x23 x24 x25)<qI)∧(((V4 x30 x31 x32 x33)<qI)
 ∧((V4 x34 x35 x36 x37)<qI)))))∧(L4 (adX (N4 x18 x19 x20 x21) (N4 x22 x23 x24 x25) (N4 x30 x31 x32 x33) (N4 x34 x35 x36 x37)) fun x38 x39 x40 x41=>L4
 (adY (N4 x18 x19 x20 x21) (N4 x22 x23 x24 x25) (N4 x30 x31 x32 x33) (N4 x34 x35 x36 x37)) fun x42 x43 x44 x45=>(P (SV.bool (B.sym (decide ([x6,x7,x8,x9,x10,x11,x12,x13]= [x38,x39,x40,x41,x42,x43,x44,x45]))))))))))))))))))))))))))))))))))))):=by kernel_rfl
theorem vc_lhm (msg:List Int) (l c:Nat) (P:SV→Prop):(execF cxLh u9 Tryz.f4 64 [.slice 9 (.lit 0) (.sym l) (.sym c),.val (.slice none 0 0)]
 (memL [(2,⟨true,.ints .u32 kL⟩),(9,⟨true,.ints .u8 msg⟩)]) fun v _=>P v)=(B1 ((l:Nat):Int) fun x0=>((((decide (x0>2147483647))=Bool.true)
 →(P (SV.bool (B.lit Bool.true))))∧(((decide (x0>2147483647))=Bool.false)→(B1 ((l:Nat):Int) fun x1=>((((decide (x1>4096))=Bool.true)
 →(P (SV.bool (B.lit Bool.true))))∧(((decide (x1>4096))=Bool.false)→(P (SV.bool (B.lit Bool.true))))))))):=by kernel_rfl
theorem vc_lhz (P:SV→Prop):(execF cxLh u9 Tryz.f4 64 [.val (.slice none 0 0),.val (.slice none 0 0)] (memL [(2,⟨true,.ints .u32 kL⟩)]) fun v _=>P v)=
 (P (SV.bool (B.lit Bool.true))):=by kernel_rfl
theorem cut_bytes {xs:List Int} {l:Nat} (h:l≤xs.length) (hb:Bytes xs):∃ys,List.take (l*1) (List.drop 0 xs)=ys∧ys.length=l∧Bytes ys:=
 ⟨_,rfl,by simp;omega,(hb.drop 0).take _⟩
theorem take8 {o:List Int} {a b c d e f g i:Int} (h:o.take 8= [a,b,c,d,e,f,g,i]):o.getD 0 0=a∧o.getD 1 0=b∧o.getD 2 0=c∧o.getD 3 0=d∧o.getD 4 0=e∧o.getD 5 0=f∧o.getD 6 0=g∧o.getD 7 0=i∧8≤o.length:=by
 have k:∀j,j<8→o.getD j 0= [a,b,c,d,e,f,g,i].getD j 0:=fun j hj=>by
  rw[←h]
  simp only[List.getD,List.getElem?_take]
  rw[if_pos hj]
 have hl:=congrArg List.length h
 simp only[List.length_take,List.length_cons,List.length_nil]at hl
 exact ⟨k 0 (by decide),k 1 (by decide),k 2 (by decide),k 3 (by decide),k 4 (by decide),k 5 (by decide),k 6 (by decide),k 7 (by decide),by omega⟩
theorem lh_walk (msg dst:List Int) (l c l2 c2:Nat) (P:SV→Prop) (hm:l≤msg.length) (hd:l2≤dst.length) (hmb:Bytes msg) (hdb:Bytes dst) (hT:P (.bool (.lit true))) (hT':P (.bool (.sym true))):
  execF cxLh u9 Tryz.f4 64 [.slice 9 (.lit 0) (.sym l) (.sym c),.slice 17 (.lit 0) (.sym l2) (.sym c2)] (memL [(2,⟨true,.ints .u32 kL⟩),(9,⟨true,.ints .u8 msg⟩),(17,⟨true,.ints .u8 dst⟩)]) fun v _=>P v:=by
 rw[vc_lh]
 obtain ⟨m1,em,ml,mb⟩:=cut_bytes hm hmb
 obtain ⟨d1,ed,dl,db⟩:=cut_bytes hd hdb
 rw[em,ed,B1_eq]
 refine ⟨fun _=>hT,fun t0=> ?_⟩
 rw[B1_eq]
 refine ⟨fun _=>hT,fun t1=> ?_⟩
 rw[B1_eq]
 refine ⟨fun _=>hT,fun t2=> ?_⟩
 rw[B1_eq]
 refine ⟨fun _=>hT,fun t3=> ?_⟩
 rw[B1_eq]
 refine ⟨fun _=>hT,fun t4=> ?_⟩
 simp only[decide_eq_false_iff_not,beq_eq_false_iff_ne,ne_eq,gt_iff_lt,Int.not_lt]at t0 t1 t2 t3 t4
 refine ⟨⟨⟨by omega,by omega⟩,rfl,ml,dl,mb,db,by omega,by omega⟩,⟨by omega,by omega⟩,⟨ml,dl,mb,db,by omega,by omega,by decide,by decide⟩,?_⟩
 intro o cap k1 k2 k3 ys hy
 subst ys
 have k3:List.take 8 o=hfW (spN (expand (List.take (l*1) (List.drop 0 msg)) (List.take (l2*1) (List.drop 0 dst)) 96)) 2:=k3
 rw[em,ed,hfW_two]at k3
 have hX:spN (expand m1 d1 96) 0<qN:=spN_lt _ _
 have hY:spN (expand m1 d1 96) 1<qN:=spN_lt _ _
 generalize spN (expand m1 d1 96) 0=A at *
 generalize spN (expand m1 d1 96) 1=B at *
 obtain ⟨g0,g1,g2,g3,g4,g5,g6,g7,g8⟩:=take8 k3
 rw[L4_eq,L4_eq]
 refine ⟨⟨by decide,by decide⟩,by omega,?_⟩
 rw[g0,g1,g2,g3,B4_eq]
 refine ⟨⟨lm4_wd _,of_eq_true (Vlt hX)⟩,?_⟩
 rw[N4l hX,L4_eq,L4_eq]
 refine ⟨⟨by decide,by decide⟩,g8,?_⟩
 rw[g4,g5,g6,g7,B4_eq]
 refine ⟨⟨lm4_wd _,of_eq_true (Vlt hY)⟩,?_⟩
 rw[N4l hY,L4_eq,L4_eq]
 refine ⟨⟨⟨lm4_wd _,lm4_wd _,lm4_wd _,lm4_wd _⟩,of_eq_true (Vlt (mxN_lt A)),of_eq_true (Vlt (myN_lt A)),of_eq_true (Vlt (mxN_lt B)),of_eq_true (Vlt (myN_lt B))⟩,?_⟩
 rw[N4l (mxN_lt A),N4l (myN_lt A),N4l (mxN_lt B),N4l (myN_lt B),L4_eq,L4_eq]
 unfold sX sY
 simp only[decide_true]
 exact hT'
theorem lhn_walk (dst:List Int) (l2 c2:Nat) (P:SV→Prop) (hd:l2≤dst.length) (hdb:Bytes dst) (hT:P (.bool (.lit true))) (hT':P (.bool (.sym true))):
  execF cxLh u9 Tryz.f4 64 [.val (.slice none 0 0),.slice 17 (.lit 0) (.sym l2) (.sym c2)] (memL [(2,⟨true,.ints .u32 kL⟩),(17,⟨true,.ints .u8 dst⟩)]) fun v _=>P v:=by
 rw[vc_lhn]
 obtain ⟨d1,ed,dl,db⟩:=cut_bytes hd hdb
 rw[ed,B1_eq]
 refine ⟨fun _=>hT,fun t1=> ?_⟩
 rw[B1_eq]
 refine ⟨fun _=>hT,fun t3=> ?_⟩
 rw[B1_eq]
 refine ⟨fun _=>hT,fun t4=> ?_⟩
 simp only[decide_eq_false_iff_not,beq_eq_false_iff_ne,ne_eq,gt_iff_lt,Int.not_lt]at t1 t3 t4
 refine ⟨⟨by omega,rfl,dl,db,by omega⟩,by omega,⟨dl,db,by omega,by decide,by decide⟩,?_⟩
 intro o cap k1 k2 k3 ys hy
 subst ys
 have k3:List.take 8 o=hfW (spN (expand [] (List.take (l2*1) (List.drop 0 dst)) 96)) 2:=k3
 rw[ed,hfW_two]at k3
 have hX:spN (expand [] d1 96) 0<qN:=spN_lt _ _
 have hY:spN (expand [] d1 96) 1<qN:=spN_lt _ _
 generalize spN (expand [] d1 96) 0=A at *
 generalize spN (expand [] d1 96) 1=B at *
 obtain ⟨g0,g1,g2,g3,g4,g5,g6,g7,g8⟩:=take8 k3
 rw[L4_eq,L4_eq]
 refine ⟨⟨by decide,by decide⟩,by omega,?_⟩
 rw[g0,g1,g2,g3,B4_eq]
 refine ⟨⟨lm4_wd _,of_eq_true (Vlt hX)⟩,?_⟩
 rw[N4l hX,L4_eq,L4_eq]
 refine ⟨⟨by decide,by decide⟩,g8,?_⟩
 rw[g4,g5,g6,g7,B4_eq]
 refine ⟨⟨lm4_wd _,of_eq_true (Vlt hY)⟩,?_⟩
 rw[N4l hY,L4_eq,L4_eq]
 refine ⟨⟨⟨lm4_wd _,lm4_wd _,lm4_wd _,lm4_wd _⟩,of_eq_true (Vlt (mxN_lt A)),of_eq_true (Vlt (myN_lt A)),of_eq_true (Vlt (mxN_lt B)),of_eq_true (Vlt (myN_lt B))⟩,?_⟩
 rw[N4l (mxN_lt A),N4l (myN_lt A),N4l (mxN_lt B),N4l (myN_lt B),L4_eq,L4_eq]
 unfold sX sY
 simp only[decide_true]
 exact hT'
theorem lhm_walk (msg:List Int) (l c:Nat) (P:SV→Prop) (hT:P (.bool (.lit true))):
  execF cxLh u9 Tryz.f4 64 [.slice 9 (.lit 0) (.sym l) (.sym c),.val (.slice none 0 0)] (memL [(2,⟨true,.ints .u32 kL⟩),(9,⟨true,.ints .u8 msg⟩)]) fun v _=>P v:=by
 rw[vc_lhm]
 simp only[B1_eq]
 repeat' first | exact hT | refine ⟨fun _=> ?_,fun _=> ?_⟩
theorem lhz_walk (P:SV→Prop) (hT:P (.bool (.lit true))):execF cxLh u9 Tryz.f4 64 [.val (.slice none 0 0),.val (.slice none 0 0)] (memL [(2,⟨true,.ints .u32 kL⟩)]) fun v _=>P v:=by
 rw[vc_lhz]
 exact hT
end Go.Sx
namespace Go.Sx
open Go Go.Proofs Go.RowKit
set_option maxRecDepth 100000
theorem Fr.same (T:Nat→Nat→Prop) (w:World):Fr T w w:=⟨rfl,rfl,rfl,Nat.le_refl _,fun _ _=>ObjFr.refl _ _⟩
theorem Fr.below {w w':World} (h:Fr noT w w'):Below w.heap.size w w':=by
 refine ⟨h.os,h.tape,h.output,h.size,fun k hk=> ?_⟩
 have:=h.blk k hk
 unfold ObjFr at this
 split at this
 ·rename_i c t f he
  obtain ⟨c',h1,h2,h3⟩:=this
  rw[h1,he]
  have:c'=c:=Array.ext_getElem? fun i=>h3 i (by unfold noT;simp)
  rw[this]
 ·exact this
def BSl (W:World) (v:Value):Prop:=
 v= .slice none 0 0∨∃(b o len cap:Nat) (zs:List Int) (arr:Array Value) (t:TypeId) (fz:Nat×Nat),v= .slice (some ⟨b,o,none⟩) len cap∧W.heap[b]? =some (.cells arr t fz)∧zs.length=cap∧len≤cap∧Bytes zs∧
  ∀i u,(zs.map (Value.int .u8))[i]? =some u→arr[o+i]? =some u
def KRow (W:World):Prop:=∃(arr:Array Value) (t:TypeId) (fz:Nat×Nat),W.heap[1]? =some (.cells arr t fz)∧∀i u,(kL.map (Value.int .u32))[i]? =some u→arr[0+i]? =some u
def env2 (b1 o1 b2 o2:Nat):Env:=fun r=>if r%2=0 then some (r / 2,0)else if r=9 then some (b1,o1)else if r=17 then some (b2,o2)else none
theorem env2_gid (b1 o1 b2 o2 g:Nat):env2 b1 o1 b2 o2 (gid g)=some (g,0):=by
 unfold env2 gid
 rw[if_pos (by omega)]
 simp
theorem env2_fresh (b1 o1 b2 o2:Nat):∀n,64≤n→Fresh (env2 b1 o1 b2 o2) n:=fun n hn j hj=>by
 unfold env2 rid
 rw[if_neg (by omega),if_neg (by omega),if_neg (by omega)]
theorem holds_ro {β:Env} {W:World} {l:List (Nat×Reg)} (h:∀x∈l,x.2.ro=true∧RegOk β W.heap.size noT W x.1 x.2):Holds β noT (memL l) W W:=by
 have hm:∀r g,(memL l).get r=some g→(r,g)∈l:=fun r g hg=>by
  rcases get_fold_set l _ hg with hg | hg
  ·exact hg
  ·rw[Tr.get_leaf]at hg;cases hg
 refine ⟨Fr.same _ _,fun r g hg=>(h _ (hm r g hg)).2,fun r s g k _ hg hk hro=> ?_⟩
 rcases hro with hro | hro
 ·have:=(h _ (hm r g hg)).1
  simp only at this
  rw[hro]at this;cases this
 ·have:=(h _ (hm s k hk)).1
  simp only at this
  rw[hro]at this;cases this
theorem regOk_ints {β:Env} {B:Nat} {W:World} {r b o:Nat} {k:IntKind} {xs:List Int} {arr:Array Value} {t:TypeId} {fz:Nat×Nat} (hβ:β r=some (b,o)) (hb:W.heap[b]? =some (.cells arr t fz))
  (hc:∀i u,(xs.map (Value.int k))[i]? =some u→arr[o+i]? =some u):RegOk β B noT W r ⟨true,.ints k xs⟩:=
 ⟨⟨b,o,arr,t,fz,_,hβ,hb,rfl,hc,fun h=>by cases h⟩⟩
def isTrue:SV→Mem→Prop:=fun sv _=>∃b:B,sv= .bool b∧b.val=true
theorem isTrue_lit (m:Mem):isTrue (.bool (.lit true)) m:=⟨_,rfl,rfl⟩
theorem isTrue_sym (b:Bool) (m:Mem) (h:b=true):isTrue (.bool (.sym b)) m:=⟨_,rfl,h⟩
def isTrueP:SV→Prop:=fun sv=>∃b:B,sv= .bool b∧b.val=true
structure Walks (fn:Func):Prop where
 both:∀(msg dst:List Int) (l c l2 c2:Nat),l≤msg.length→l2≤dst.length→Bytes msg→Bytes dst→∃U,
  execF cxLh U fn 64 [.slice 9 (.lit 0) (.sym l) (.sym c),.slice 17 (.lit 0) (.sym l2) (.sym c2)] (memL [(2,⟨true,.ints .u32 kL⟩),(9,⟨true,.ints .u8 msg⟩),(17,⟨true,.ints .u8 dst⟩)]) isTrue
 dst:∀(dst:List Int) (l2 c2:Nat),l2≤dst.length→Bytes dst→∃U,
  execF cxLh U fn 64 [.val (.slice none 0 0),.slice 17 (.lit 0) (.sym l2) (.sym c2)] (memL [(2,⟨true,.ints .u32 kL⟩),(17,⟨true,.ints .u8 dst⟩)]) isTrue
 msg:∀(msg:List Int) (l c:Nat),∃U,
  execF cxLh U fn 64 [.slice 9 (.lit 0) (.sym l) (.sym c),.val (.slice none 0 0)] (memL [(2,⟨true,.ints .u32 kL⟩),(9,⟨true,.ints .u8 msg⟩)]) isTrue
 none:∃U,execF cxLh U fn 64 [.val (.slice none 0 0),.val (.slice none 0 0)] (memL [(2,⟨true,.ints .u32 kL⟩)]) isTrue
theorem walks4:Walks Tryz.f4 where
 both:=fun msg dst l c l2 c2 h1 h2 h3 h4=>⟨u9,lh_walk msg dst l c l2 c2 isTrueP h1 h2 h3 h4 ⟨_,rfl,rfl⟩ ⟨_,rfl,rfl⟩⟩
 dst:=fun dst l2 c2 h2 h4=>⟨u9,lhn_walk dst l2 c2 isTrueP h2 h4 ⟨_,rfl,rfl⟩ ⟨_,rfl,rfl⟩⟩
 msg:=fun msg l c=>⟨u9,lhm_walk msg l c isTrueP ⟨_,rfl,rfl⟩⟩
 none:=⟨u9,lhz_walk isTrueP ⟨_,rfl,rfl⟩⟩
theorem done_true {β:Env} {W:World} {e:Ending} {w':World} (h:Done β noT W isTrue e w'):e= .returned (.bool true)∧Below W.heap.size W w':=by
 obtain ⟨β',v,sv,m',_,rfl,hd,hH,b,rfl,hb⟩:=h
 refine ⟨?_,hH.fr.below⟩
 simp only[Den]at hd
 rw[hd,hb]
theorem run_law {f:FuncId} {fn:Func} (hfn:Tryz.prog.funcs[f]? =some fn) (hw:Walks fn) {W:World} {v0 v1:Value} (hK:KRow W) (h0:BSl W v0) (h1:BSl W v1):
  Calls Tryz.prog f #[v0,v1] W fun e W'=>e= .returned (.bool true)∧Below W.heap.size W W':=by
 obtain ⟨karr,kt,kfz,hk1,hk2⟩:=hK
 have dn:∀β:Env,Den β (.val (.slice none 0 0)) (.slice none 0 0):=fun β=>by simp[Den]
 have d2:∀ {β:Env} {a b:SV} {u v:Value},Den β a u→Den β b v→DenL β [a,b] [u,v]:=fun {β} {a b} {u v} h1 h2=>
  ⟨u,[v],h1,⟨v,[],h2,rfl,rfl⟩,rfl⟩
 rcases h0 with rfl | ⟨b1,o1,len1,cap1,zs1,arr1,t1,fz1,rfl,a1,a2,a3,a4,a5⟩<;>rcases h1 with rfl | ⟨b2,o2,len2,cap2,zs2,arr2,t2,fz2,rfl,c1,c2,c3,c4,c5⟩
 ·have hH:Holds (env2 0 0 0 0) noT (memL [(2,⟨true,.ints .u32 kL⟩)]) W W:=holds_ro (by
   intro x hx
   simp only[List.mem_cons,List.not_mem_nil,or_false]at hx
   subst hx
   exact ⟨rfl,regOk_ints (env2_gid _ _ _ _ 1) hk1 hk2⟩)
  exact (execF_sound mixed hfn hH (d2 (dn _) (dn _)) (env2_gid _ _ _ _) (env2_fresh _ _ _ _) (Classical.choose_spec hw.none)).mono fun e w' h=>done_true h
 ·have hH:Holds (env2 0 0 b2 o2) noT (memL [(2,⟨true,.ints .u32 kL⟩),(17,⟨true,.ints .u8 zs2⟩)]) W W:=holds_ro (by
   intro x hx
   simp only[List.mem_cons,List.not_mem_nil,or_false]at hx
   rcases hx with rfl | rfl
   ·exact ⟨rfl,regOk_ints (env2_gid _ _ _ _ 1) hk1 hk2⟩
   ·exact ⟨rfl,regOk_ints (by simp[env2]) c1 c5⟩)
  exact (execF_sound mixed hfn hH (d2 (dn _) (by simp only[Den];exact ⟨b2,o2,rfl,rfl⟩)) (env2_gid _ _ _ _) (env2_fresh _ _ _ _) (Classical.choose_spec (hw.dst zs2 len2 cap2 (by omega) c4))).mono fun e w' h=>done_true h
 ·have hH:Holds (env2 b1 o1 0 0) noT (memL [(2,⟨true,.ints .u32 kL⟩),(9,⟨true,.ints .u8 zs1⟩)]) W W:=holds_ro (by
   intro x hx
   simp only[List.mem_cons,List.not_mem_nil,or_false]at hx
   rcases hx with rfl | rfl
   ·exact ⟨rfl,regOk_ints (env2_gid _ _ _ _ 1) hk1 hk2⟩
   ·exact ⟨rfl,regOk_ints (by simp[env2]) a1 a5⟩)
  exact (execF_sound mixed hfn hH (d2 (by simp only[Den];exact ⟨b1,o1,rfl,rfl⟩) (dn _)) (env2_gid _ _ _ _) (env2_fresh _ _ _ _) (Classical.choose_spec (hw.msg zs1 len1 cap1))).mono fun e w' h=>done_true h
 ·have hH:Holds (env2 b1 o1 b2 o2) noT (memL [(2,⟨true,.ints .u32 kL⟩),(9,⟨true,.ints .u8 zs1⟩),(17,⟨true,.ints .u8 zs2⟩)]) W W:=holds_ro (by
   intro x hx
   simp only[List.mem_cons,List.not_mem_nil,or_false]at hx
   rcases hx with rfl | rfl | rfl
   ·exact ⟨rfl,regOk_ints (env2_gid _ _ _ _ 1) hk1 hk2⟩
   ·exact ⟨rfl,regOk_ints (by simp[env2]) a1 a5⟩
   ·exact ⟨rfl,regOk_ints (by simp[env2]) c1 c5⟩)
  exact (execF_sound mixed hfn hH (d2 (by simp only[Den];exact ⟨b1,o1,rfl,rfl⟩) (by simp only[Den];exact ⟨b2,o2,rfl,rfl⟩)) (env2_gid _ _ _ _) (env2_fresh _ _ _ _) (Classical.choose_spec (hw.both zs1 zs2 len1 cap1 len2 cap2 (by omega) (by omega) a4 c4))).mono fun e w' h=>done_true h
end Go.Sx
