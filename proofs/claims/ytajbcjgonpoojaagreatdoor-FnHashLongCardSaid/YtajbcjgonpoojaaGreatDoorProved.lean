/- Part 5 of the proof: for every message and domain the law FnHashLong returns true (a verified symbolic evaluator, contracts of each function reached, the law, its row and card). Conditions: those of the given statement, none besides. -/
import Derived.Test.YtajbcjgonpoojaaGreatDoorRows
import Derived.Test.YtajbcjgonpoojaaGreatDoorTie
import Derived.Test.YtajbcjgonpoojaaGreatDoorCards
import Derived.ProofKit
import Derived.LaidMore
import Derived.LaidLaws
import Derived.LaidHandle
import Derived.MakeChecks
import Derived.OpenShut
import Derived.Carry
import Derived.Stop.Joined
import Derived.SevenTiedAt
import Derived.Test.YtajbcjgonpoojaaGreatDoorSx4
namespace Go.Sx
open Go Go.Num
theorem dbX_fz {X Y:Nat}:fz (dbX X Y)=9*(fz X*fz X*fz X*fz X)-8*fz X*(fz Y*fz Y):=by
 unfold dbX dbD dbE
 rw[dq_fz (aq_lt _ _)]
 simp only[mq_fz,aq_fz]
 rw[dq_fz (mq_lt _ _),dq_fz (mq_lt _ _)]
 simp only[mq_fz,aq_fz]
 generalize fz X=x
 generalize fz Y=y
 grobner
theorem dbX_lt (a b:Nat):dbX a b<qN:=dq_lt _ _
theorem dbY_fz {X Y:Nat}:fz (dbY X Y)=(4*fz X*(fz Y*fz Y)-fz (dbX X Y))*(3*(fz X*fz X))-8*(fz Y*fz Y)*(fz Y*fz Y):=by
 unfold dbY
 rw[dq_fz (db2_lt _),mq_fz,dq_fz (dbX_lt _ _)]
 simp only[db2_fz]
 generalize dbX X Y=R
 unfold dbD dbE
 simp only[mq_fz,aq_fz]
 rw[dq_fz (mq_lt _ _),dq_fz (mq_lt _ _)]
 simp only[mq_fz,aq_fz]
 generalize fz X=x
 generalize fz Y=y
 generalize fz R=r
 grobner
theorem db_fin {x y i j X:Fin qN} (hi:i*(2*y)=1) (hj:j*(2*y)=1) (hX:X=9*(x*x*x*x)-8*x*(y*y)):
  X*(i*i)=3*(x*x)*j*(3*(x*x)*j)-x-x:=by
 have e:i=j:=by grobner
 subst e
 subst hX
 grobner
theorem db_fin2 {x y i j X:Fin qN} (hi:i*(2*y)=1) (hj:j*(2*y)=1):
  ((4*x*(y*y)-X)*(3*(x*x))-8*(y*y)*(y*y))*(i*i)*i=3*(x*x)*j*(x-X*(i*i))-y:=by
 have e:i=j:=by grobner
 subst e
 have e4:(4*x*(y*y))*(3*(x*x))*(i*i)*i=3*(x*x)*i*x:=by grobner
 have e5:8*(y*y)*(y*y)*(i*i)*i=y:=by grobner
 have e6:X*(3*(x*x))*(i*i)*i=3*(x*x)*i*(X*(i*i)):=by grobner
 grobner
theorem dbl_z {y:Nat}:fz (aq y y)=2*fz y:=db2_fz y
theorem two_ne {a:Nat} (ha:a<qN) (h:fz a=2*fz 0):a=0:=nfz ha (by decide) (by rw[h,fz0];grobner)
theorem ne_two {y:Nat} (hy:y<qN) (h:y≠0):db2 y≠0:=by
 intro e
 obtain ⟨t,ht⟩:=two_fz
 have k:fz (db2 y)=fz 0:=by rw[e]
 rw[db2_fz]at k
 refine h (nfz hy (by decide) ?_)
 rw[fz0]at k ⊢
 generalize fz y=Y at *
 have e1:t*2*Y=Y:=by rw[ht];grobner
 have e2:t*(2*Y)=0:=by rw[k];grobner
 grobner
theorem dq_ne {a b:Nat} (ha:a<qN) (hb:b<qN) (h:a≠b):dq b a≠0:=by
 intro e
 have k:fz (dq b a)=fz 0:=by rw[e]
 rw[dq_fz ha]at k
 refine h (nfz ha hb ?_)
 rw[fz0]at k
 generalize fz a=A at *
 generalize fz b=B at *
 grobner
theorem adU1 {X:Nat} (h:X<qN):adU X 1=X:=by unfold adU;rw[mq11,mq_one h]
theorem adS1 {X:Nat} (h:X<qN):adS X 1 1=X:=by unfold adS;rw[mq11,mq_one h,mq_one h]
theorem jt_one {x y:Nat} (hx:x<qN) (hy:y<qN):jtX ⟨x,y,1⟩=x∧jtY ⟨x,y,1⟩=y:=by
 unfold jtX jtY
 simp only
 rw[if_neg (by decide),if_neg (by decide),inv01,mq11,mq_one hx,mq_one hy,mq_one hy]
 exact ⟨rfl,rfl⟩
theorem jt_zero {p:J3} (h:p.z=0):jtX p=0∧jtY p=0:=by
 unfold jtX jtY
 rw[if_pos h,if_pos h]
 exact ⟨rfl,rfl⟩
theorem chd_ne {X0 Y0 X1 Y1:Nat} (a:X0<qN) (b:Y0<qN) (c:X1<qN) (d:Y1<qN) (h:X0≠X1):
  jtX (chd ⟨X1,Y1,1⟩ ⟨X0,Y0,1⟩)=spX (slC X0 Y0 X1 Y1) X0 X1∧jtY (chd ⟨X1,Y1,1⟩ ⟨X0,Y0,1⟩)=spY (slC X0 Y0 X1 Y1) X0 Y0 X1:=by
 unfold chd jtX jtY
 simp only
 rw[adU1 a,adU1 c,adS1 b,adS1 d]
 have hz:fz (chZ X0 X1 1 1)=2*fz (dq X1 X0):=chd_z
 have hne:=dq_ne a c h
 have hH:chZ X0 X1 1 1≠0:=by
  intro e
  have k:fz (db2 (dq X1 X0))=fz 0:=by rw[db2_fz,←hz,e]
  exact ne_two (dq_lt _ _) hne (nfz (aq_lt _ _) (by decide) k)
 have hl:chZ X0 X1 1 1<qN:=mq_lt _ _
 have hi:=inv_fz hl hH
 have hj:=inv_fz (dq_lt X1 X0) hne
 rw[if_neg hH,if_neg hH]
 rw[hz,dq_fz a]at hi
 rw[dq_fz a]at hj
 have ex:fz (mq (chX X0 X1 Y0 Y1) (mq (inv0 (chZ X0 X1 1 1)) (inv0 (chZ X0 X1 1 1))))=fz (spX (slC X0 Y0 X1 Y1) X0 X1):=by
  unfold spX slC
  rw[dq_fz c,dq_fz a]
  simp only[mq_fz]
  rw[dq_fz b]
  exact ch_fin hi hj (chX_fz a b)
 refine ⟨nfz (mq_lt _ _) (spX_lt _ _ _) ex,nfz (mq_lt _ _) (spY_lt _ _ _ _) ?_⟩
 unfold spY
 rw[dq_fz b,mq_fz (slC X0 Y0 X1 Y1),dq_fz (spX_lt _ _ _),←ex]
 unfold slC
 simp only[mq_fz]
 rw[dq_fz b,chY_fz a b]
 exact ch_fin2 hi hj
theorem chd_eq {X Y0 Y1:Nat} (a:X<qN):(chd ⟨X,Y1,1⟩ ⟨X,Y0,1⟩).z=0:=by
 unfold chd
 simp only
 unfold chZ
 rw[dq_self (show adU X 1<qN from mq_lt _ _),mq_zero]
theorem dbl_tan {X Y:Nat} (a:X<qN) (b:Y<qN) (h:Y≠0):jtX (dbl ⟨X,Y,1⟩)=spX (slT X Y) X X∧jtY (dbl ⟨X,Y,1⟩)=spY (slT X Y) X Y X:=by
 unfold dbl jtX jtY
 simp only
 have hz:dbZ Y 1=db2 Y:=by unfold dbZ;rw[mq_one b]
 rw[hz,if_neg (ne_two b h),if_neg (ne_two b h)]
 have hi:=inv_fz (show db2 Y<qN from aq_lt _ _) (ne_two b h)
 have hj:fz (inv0 (aq Y Y))*(2*fz Y)=1:=by rw[←db2_fz];exact hi
 rw[db2_fz]at hi
 have ex:fz (mq (dbX X Y) (mq (inv0 (db2 Y)) (inv0 (db2 Y))))=fz (spX (slT X Y) X X):=by
  unfold spX slT
  rw[dq_fz a,dq_fz a]
  simp only[mq_fz,fz3]
  exact db_fin hi hj dbX_fz
 refine ⟨nfz (mq_lt _ _) (spX_lt _ _ _) ex,nfz (mq_lt _ _) (spY_lt _ _ _ _) ?_⟩
 unfold spY
 rw[dq_fz b,mq_fz (slT X Y),dq_fz (spX_lt _ _ _),←ex]
 unfold slT
 simp only[mq_fz,fz3]
 rw[dbY_fz]
 exact db_fin2 hi hj
theorem sum_eq {X0 Y0 X1 Y1:Nat} (a:X0<qN) (b:Y0<qN) (c:X1<qN) (d:Y1<qN):
  jtX (jad (jfr X1 Y1) (jfr X0 Y0))=adX X0 Y0 X1 Y1∧jtY (jad (jfr X1 Y1) (jfr X0 Y0))=adY X0 Y0 X1 Y1:=by
 have fin:∀ {X Y:Nat},¬(X=0∧Y=0)→jfr X Y=⟨X,Y,1⟩:=fun h=>by unfold jfr jf1 jfZ;rw[if_neg h,if_neg h,if_neg h]
 have inf:∀ {X Y:Nat},X=0∧Y=0→jfr X Y=⟨1,1,0⟩:=fun h=>by unfold jfr jf1 jfZ;rw[if_pos h,if_pos h,if_pos h]
 unfold adX adY
 by_cases h0:X0=0∧Y0=0
 ·rw[if_pos h0,if_pos h0,inf h0]
  by_cases h1:X1=0∧Y1=0
  ·rw[inf h1]
   unfold jad
   rw[if_pos rfl,h1.1,h1.2]
   exact jt_zero rfl
  ·rw[fin h1]
   unfold jad
   rw[if_neg (by simp only;decide),if_pos rfl]
   exact jt_one c d
 ·rw[if_neg h0,if_neg h0,fin h0]
  by_cases h1:X1=0∧Y1=0
  ·rw[if_pos h1,if_pos h1,inf h1]
   unfold jad
   rw[if_pos rfl]
   exact jt_one a b
  ·rw[if_neg h1,if_neg h1,fin h1]
   unfold jad
   rw[if_neg (by simp only;decide),if_neg (by simp only;decide)]
   simp only
   rw[adU1 a,adU1 c,adS1 b,adS1 d]
   by_cases hx:X0=X1
   ·subst hx
    have n0:¬(X0≠X0):=fun h=>h rfl
    rw[if_neg n0,if_neg n0]
    by_cases hy:Y0=Y1
    ·subst hy
     have p0:X0=X0∧Y0=Y0:=⟨rfl,rfl⟩
     rw[if_pos p0]
     by_cases hz:Y0=0
     ·have n1:¬(Y0=Y0∧Y0≠0):=fun h=>h.2 hz
      rw[if_neg n1,if_neg n1]
      refine jt_zero ?_
      unfold dbl dbZ
      simp only
      rw[mq_one b,hz]
      rfl
     ·have p1:Y0=Y0∧Y0≠0:=⟨rfl,hz⟩
      rw[if_pos p1,if_pos p1]
      exact dbl_tan a b hz
    ·have n1:¬(Y0=Y1∧Y0≠0):=fun h=>hy h.1
     have n2:¬(X0=X0∧Y0=Y1):=fun h=>hy h.2
     rw[if_neg n1,if_neg n1,if_neg n2]
     exact jt_zero (chd_eq a)
   ·have n2:¬(X0=X1∧Y0=Y1):=fun h=>hx h.1
    rw[if_neg n2,if_pos hx,if_pos hx]
    exact chd_ne a b c d hx
end Go.Sx
namespace Go.Sx
open Go Go.Proofs Go.Num
set_option maxRecDepth 100000
theorem vc_Db0 (z0 z1 z2 z3 a0 a1 a2 a3:Int) (K:SV→Mem→Prop):execF cxAdd u0 Tryz.f86 64 [.ptr 1 (.lit 0),.ptr 9 (.lit 0)] (memL [(1,⟨false,w4 z0 z1 z2 z3⟩),(9,⟨true,w4 a0 a1 a2 a3⟩)]) K=
 AddP a0 a1 a2 a3 a0 a1 a2 a3 fun y0 y1 y2 y3=>K (.ptr 1 (.lit 0)) (memL [(1,⟨false,w4 y0 y1 y2 y3⟩),(9,⟨true,w4 a0 a1 a2 a3⟩)]):=by kernel_rfl
theorem vc_Db1 (z0 z1 z2 z3:Int) (K:SV→Mem→Prop):execF cxAdd u0 Tryz.f86 64 [.ptr 1 (.lit 0),.ptr 1 (.lit 0)] (memL [(1,⟨false,w4 z0 z1 z2 z3⟩)]) K=
 AddP z0 z1 z2 z3 z0 z1 z2 z3 fun y0 y1 y2 y3=>K (.ptr 1 (.lit 0)) (memL [(1,⟨false,w4 y0 y1 y2 y3⟩)]):=by kernel_rfl
def gDb:G0:=fun args l K=>
 match args,l with
 | [.ptr 1 (.lit 0),.ptr 9 (.lit 0)],[(1,⟨false,.cells [.int .u64 (.sym z0),.int .u64 (.sym z1),.int .u64 (.sym z2),.int .u64 (.sym z3)]⟩),(9,⟨true,.cells [.int .u64 (.sym a0),.int .u64 (.sym a1),.int .u64 (.sym a2),.int .u64 (.sym a3)]⟩)]=>addC a0 a1 a2 a3 a0 a1 a2 a3 fun y0 y1 y2 y3=>K (.ptr 1 (.lit 0)) (memL [(1,⟨false,w4 y0 y1 y2 y3⟩),(9,⟨true,w4 a0 a1 a2 a3⟩)])
 | [.ptr 1 (.lit 0),.ptr 1 (.lit 0)],[(1,⟨false,.cells [.int .u64 (.sym z0),.int .u64 (.sym z1),.int .u64 (.sym z2),.int .u64 (.sym z3)]⟩)]=>addC z0 z1 z2 z3 z0 z1 z2 z3 fun y0 y1 y2 y3=>K (.ptr 1 (.lit 0)) (memL [(1,⟨false,w4 y0 y1 y2 y3⟩)])
 | _,_=>False
theorem Db_good:Good gDb:=by
 constructor
 ·intro args l K K' hk h
  unfold gDb at h ⊢
  split at h
  ·exact addC_mono (fun _ _ _ _=>hk _ _) h
  ·exact addC_mono (fun _ _ _ _=>hk _ _) h
  ·exact h.elim
 ·intro args l K h
  unfold gDb at h
  split at h
  ·obtain ⟨_,_,_,_,h⟩:=addC_live h
   exact ⟨_,_,h⟩
  ·obtain ⟨_,_,_,_,h⟩:=addC_live h
   exact ⟨_,_,h⟩
  ·exact h.elim
theorem Db_ok (args:List SV) (l:List (Nat×Reg)) (K:SV→Mem→Prop) (hK:KUp K) (h:gDb args l K):∃U,execF cxAdd U Tryz.f86 64 args (memL l) K:=by
 unfold gDb at h
 split at h
 ·rename_i z0 z1 z2 z3 a0 a1 a2 a3
  refine ⟨u0,?_⟩
  have:=vc_Db0 z0 z1 z2 z3 a0 a1 a2 a3 K
  unfold w4 at this
  rw[this]
  exact addC_of h
 ·rename_i z0 z1 z2 z3
  refine ⟨u0,?_⟩
  have:=vc_Db1 z0 z1 z2 z3 K
  unfold w4 at this
  rw[this]
  exact addC_of h
 ·exact h.elim
def kDb:Ef Tryz.prog:=mkE mixed 86 Tryz.func86 (by decide) (by kernel_rfl) [] [.ptr 4 false,.ptr 4 true] gDb Db_good Db_ok
@[reducible] def w8 (x0 x1 x2 x3 x4 x5 x6 x7 : Int) : Ct := .cells [.int .u64 (.sym x0), .int .u64 (.sym x1), .int .u64 (.sym x2), .int .u64 (.sym x3), .int .u64 (.sym x4), .int .u64 (.sym x5), .int .u64 (.sym x6), .int .u64 (.sym x7)]
def c8 (c:Ct) (K:Int→Int→Int→Int→Int→Int→Int→Int→Prop):Prop:=
 match c with
 | .cells [.int .u64 (.sym x0),.int .u64 (.sym x1),.int .u64 (.sym x2),.int .u64 (.sym x3),.int .u64 (.sym x4),.int .u64 (.sym x5),.int .u64 (.sym x6),.int .u64 (.sym x7)]=>K x0 x1 x2 x3 x4 x5 x6 x7
 | _=>False
theorem c8_mono {c:Ct} {K K':Int→Int→Int→Int→Int→Int→Int→Int→Prop} (hk:∀x0 x1 x2 x3 x4 x5 x6 x7,K x0 x1 x2 x3 x4 x5 x6 x7→K' x0 x1 x2 x3 x4 x5 x6 x7) (h:c8 c K):c8 c K':=by
 unfold c8 at h ⊢
 split at h
 ·exact hk _ _ _ _ _ _ _ _ h
 ·exact h.elim
theorem c8_ex {c:Ct} {K:Int→Int→Int→Int→Int→Int→Int→Int→Prop} (h:c8 c K):∃x0 x1 x2 x3 x4 x5 x6 x7,c=w8 x0 x1 x2 x3 x4 x5 x6 x7∧K x0 x1 x2 x3 x4 x5 x6 x7:=by
 unfold c8 at h
 split at h
 ·exact ⟨_,_,_,_,_,_,_,_,rfl,h⟩
 ·exact h.elim
@[reducible] def w12 (x0 x1 x2 x3 x4 x5 x6 x7 x8 x9 x10 x11 : Int) : Ct := .cells [.int .u64 (.sym x0), .int .u64 (.sym x1), .int .u64 (.sym x2), .int .u64 (.sym x3), .int .u64 (.sym x4), .int .u64 (.sym x5), .int .u64 (.sym x6), .int .u64 (.sym x7), .int .u64 (.sym x8), .int .u64 (.sym x9), .int .u64 (.sym x10), .int .u64 (.sym x11)]
def c12 (c:Ct) (K:Int→Int→Int→Int→Int→Int→Int→Int→Int→Int→Int→Int→Prop):Prop:=
 match c with
 | .cells [.int .u64 (.sym x0),.int .u64 (.sym x1),.int .u64 (.sym x2),.int .u64 (.sym x3),.int .u64 (.sym x4),.int .u64 (.sym x5),.int .u64 (.sym x6),.int .u64 (.sym x7),.int .u64 (.sym x8),.int .u64 (.sym x9),.int .u64 (.sym x10),.int .u64 (.sym x11)]=>K x0 x1 x2 x3 x4 x5 x6 x7 x8 x9 x10 x11
 | _=>False
theorem c12_mono {c:Ct} {K K':Int→Int→Int→Int→Int→Int→Int→Int→Int→Int→Int→Int→Prop} (hk:∀x0 x1 x2 x3 x4 x5 x6 x7 x8 x9 x10 x11,K x0 x1 x2 x3 x4 x5 x6 x7 x8 x9 x10 x11→K' x0 x1 x2 x3 x4 x5 x6 x7 x8 x9 x10 x11) (h:c12 c K):c12 c K':=by
 unfold c12 at h ⊢
 split at h
 ·exact hk _ _ _ _ _ _ _ _ _ _ _ _ h
 ·exact h.elim
theorem c12_ex {c:Ct} {K:Int→Int→Int→Int→Int→Int→Int→Int→Int→Int→Int→Int→Prop} (h:c12 c K):∃x0 x1 x2 x3 x4 x5 x6 x7 x8 x9 x10 x11,c=w12 x0 x1 x2 x3 x4 x5 x6 x7 x8 x9 x10 x11∧K x0 x1 x2 x3 x4 x5 x6 x7 x8 x9 x10 x11:=by
 unfold c12 at h
 split at h
 ·exact ⟨_,_,_,_,_,_,_,_,_,_,_,_,rfl,h⟩
 ·exact h.elim
structure Jp (j0 j1 j2 j3 j4 j5 j6 j7 j8 j9 j10 j11:Int) (p:J3):Prop where
 x:El j0 j1 j2 j3 (mont p.x)
 y:El j4 j5 j6 j7 (mont p.y)
 z:El j8 j9 j10 j11 (mont p.z)
 lx:p.x<qN
 ly:p.y<qN
 lz:p.z<qN
theorem Jp.ex {p:J3} (lx:p.x<qN) (ly:p.y<qN) (lz:p.z<qN):∃j0 j1 j2 j3 j4 j5 j6 j7 j8 j9 j10 j11,Jp j0 j1 j2 j3 j4 j5 j6 j7 j8 j9 j10 j11 p:=
 ⟨_,_,_,_,_,_,_,_,_,_,_,_,El.of (mont_lt _),El.of (mont_lt _),El.of (mont_lt _),lx,ly,lz⟩
theorem jf1_lt {X Y n:Nat} (h:n<qN):jf1 X Y n<qN:=by
 unfold jf1
 split
 ·decide
 ·exact h
theorem jfZ_lt (X Y:Nat):jfZ X Y<qN:=by
 unfold jfZ
 split<;>decide
theorem jad_lt {p q:J3} (a:p.x<qN∧p.y<qN∧p.z<qN) (b:q.x<qN∧q.y<qN∧q.z<qN):(jad p q).x<qN∧(jad p q).y<qN∧(jad p q).z<qN:=by
 unfold jad
 split
 ·exact b
 ·split
  ·exact a
  ·split
   ·exact ⟨dq_lt _ _,dq_lt _ _,aq_lt _ _⟩
   ·exact ⟨dq_lt _ _,dq_lt _ _,mq_lt _ _⟩
theorem jtX_lt (p:J3):jtX p<qN:=by
 unfold jtX
 split
 ·decide
 ·exact mq_lt _ _
theorem jtY_lt (p:J3):jtY p<qN:=by
 unfold jtY
 split
 ·decide
 ·exact mq_lt _ _
theorem mont_z {x:Nat} (h:x<qN):mont x=0↔x=0:=by
 constructor
 ·intro e
  have:=mont_back x
  rw[e,mmul_zero,Nat.mod_eq_of_lt h]at this
  exact this.symm
 ·rintro rfl
  exact mont_zero
theorem mont_q {x y:Nat} (h:x<qN) (h':y<qN):mont x=mont y↔x=y:=by
 constructor
 ·intro e
  have:=mont_inj e
  rwa [Nat.mod_eq_of_lt h,Nat.mod_eq_of_lt h']at this
 ·rintro rfl
  rfl
def r8 (c:Ct) (f:Int→Int→Int→Int→Int→Int→Int→Int→Option (Ob×SV)):Option (Ob×SV):=
 match c with
 | .cells [.int .u64 (.sym x0),.int .u64 (.sym x1),.int .u64 (.sym x2),.int .u64 (.sym x3),.int .u64 (.sym x4),.int .u64 (.sym x5),.int .u64 (.sym x6),.int .u64 (.sym x7)]=>f x0 x1 x2 x3 x4 x5 x6 x7
 | _=>none
theorem r8_ex {c:Ct} {f:Int→Int→Int→Int→Int→Int→Int→Int→Option (Ob×SV)} {x:Ob×SV} (h:r8 c f=some x):∃x0 x1 x2 x3 x4 x5 x6 x7,c=w8 x0 x1 x2 x3 x4 x5 x6 x7∧f x0 x1 x2 x3 x4 x5 x6 x7=some x:=by
 unfold r8 at h
 split at h
 ·exact ⟨_,_,_,_,_,_,_,_,rfl,h⟩
 ·cases h
def cxInf:Cx Tryz.prog:= { rds:= [cIz],efs:= [],eqs:= [] }
theorem vc_inf (x0 x1 x2 x3 x4 x5 x6 x7:Int) (P:SV→Prop):(execF cxInf u9 Tryz.f104 64 [.ptr 1 (.lit 0)] (memL [(1,⟨true,w8 x0 x1 x2 x3 x4 x5 x6 x7⟩)]) fun v _=>P v)=
 (W4 x0 x1 x2 x3∧(decide (V4 x0 x1 x2 x3=0)=true→W4 x4 x5 x6 x7∧P (.bool (.sym (decide (V4 x4 x5 x6 x7=0)))))∧(decide (V4 x0 x1 x2 x3=0)=false→P (.bool (.lit false)))):=by kernel_rfl
def rInf:R0:=fun args l=>
 match args,l with
 | [.ptr 1 (.lit 0)],[(1,⟨true,x⟩)]=>r8 x fun x0 x1 x2 x3 x4 x5 x6 x7=>some (some (W4 x0 x1 x2 x3∧W4 x4 x5 x6 x7),.bool (.sym (decide (V4 x0 x1 x2 x3=0∧V4 x4 x5 x6 x7=0))))
 | _,_=>none
theorem inf_ok (args:List SV) (l:List (Nat×Reg)) (p:Ob) (v:SV) (h:rInf args l=some (p,v)) (hp:p.ok):∃U,execF cxInf U Tryz.f104 64 args (memL l) fun v' _=>∀β u,Den β v' u→Den β v u:=by
 unfold rInf at h
 split at h
 ·obtain ⟨x0,x1,x2,x3,x4,x5,x6,x7,rfl,q⟩:=r8_ex h
  simp only[Option.some.injEq,Prod.mk.injEq]at q
  obtain ⟨rfl,rfl⟩:=q
  obtain ⟨ha,hb⟩:W4 x0 x1 x2 x3∧W4 x4 x5 x6 x7:=hp
  refine ⟨u9,?_⟩
  rw[vc_inf x0 x1 x2 x3 x4 x5 x6 x7 fun v'=>∀β u,Den β v' u→Den β (.bool (.sym (decide (V4 x0 x1 x2 x3=0∧V4 x4 x5 x6 x7=0)))) u]
  refine ⟨ha,fun h=>⟨hb,den_bool ?_⟩,fun h=>den_bool ?_⟩
  ·have h:V4 x0 x1 x2 x3=0:=by simpa using h
   show decide _=decide _
   simp[h]
  ·have h:¬V4 x0 x1 x2 x3=0:=by simpa using h
   show false=decide _
   simp[h]
 ·cases h
def cInf:Rd Tryz.prog:=mkQ mixed 104 Tryz.func104 (by decide) (by kernel_rfl) [] [.ptr 8 true] rInf inf_ok
def cxJs:Cx Tryz.prog:= { rds:= [],efs:= [],eqs:= [] }
theorem vc_js (p0 p1 p2 p3 p4 p5 p6 p7 p8 p9 p10 p11 q0 q1 q2 q3 q4 q5 q6 q7 q8 q9 q10 q11:Int) (K:SV→Mem→Prop):(execF cxJs u9 Tryz.f105 64 [.ptr 1 (.lit 0),.ptr 9 (.lit 0)] (memL [(1,⟨false,w12 p0 p1 p2 p3 p4 p5 p6 p7 p8 p9 p10 p11⟩),(9,⟨true,w12 q0 q1 q2 q3 q4 q5 q6 q7 q8 q9 q10 q11⟩)]) K)=
 (∀x0,x0=q0→∀x1,x1=q1→∀x2,x2=q2→∀x3,x3=q3→∀x4,x4=q4→∀x5,x5=q5→∀x6,x6=q6→∀x7,x7=q7→∀x8,x8=q8→∀x9,x9=q9→∀x10,x10=q10→∀x11,x11=q11→
  K (.ptr 1 (.lit 0)) (memL [(1,⟨false,w12 x0 x1 x2 x3 x4 x5 x6 x7 x8 x9 x10 x11⟩),(9,⟨true,w12 q0 q1 q2 q3 q4 q5 q6 q7 q8 q9 q10 q11⟩)])):=by kernel_rfl
def gJs:G0:=fun args l K=>
 match args,l with
 | [.ptr 1 (.lit 0),.ptr 9 (.lit 0)],[(1,⟨false,z⟩),(9,⟨true,q⟩)]=>c12 z fun _ _ _ _ _ _ _ _ _ _ _ _=>c12 q fun q0 q1 q2 q3 q4 q5 q6 q7 q8 q9 q10 q11=>K (.ptr 1 (.lit 0)) (memL [(1,⟨false,w12 q0 q1 q2 q3 q4 q5 q6 q7 q8 q9 q10 q11⟩),(9,⟨true,w12 q0 q1 q2 q3 q4 q5 q6 q7 q8 q9 q10 q11⟩)])
 | _,_=>False
theorem js_good:Good gJs:=by
 constructor
 ·intro args l K K' hk h
  unfold gJs at h ⊢
  split at h
  ·exact c12_mono (fun _ _ _ _ _ _ _ _ _ _ _ _ h=>c12_mono (fun _ _ _ _ _ _ _ _ _ _ _ _ h=>hk _ _ h) h) h
  ·exact h.elim
 ·intro args l K h
  unfold gJs at h
  split at h
  ·obtain ⟨_,_,_,_,_,_,_,_,_,_,_,_,_,h⟩:=c12_ex h
   obtain ⟨_,_,_,_,_,_,_,_,_,_,_,_,_,h⟩:=c12_ex h
   exact ⟨_,_,h⟩
  ·exact h.elim
theorem js_ok (args:List SV) (l:List (Nat×Reg)) (K:SV→Mem→Prop) (hup:KUp K) (h:gJs args l K):∃U,execF cxJs U Tryz.f105 64 args (memL l) K:=by
 unfold gJs at h
 split at h
 ·obtain ⟨p0,p1,p2,p3,p4,p5,p6,p7,p8,p9,p10,p11,rfl,h1⟩:=c12_ex h
  obtain ⟨q0,q1,q2,q3,q4,q5,q6,q7,q8,q9,q10,q11,rfl,h2⟩:=c12_ex h1
  refine ⟨u9,(vc_js p0 p1 p2 p3 p4 p5 p6 p7 p8 p9 p10 p11 q0 q1 q2 q3 q4 q5 q6 q7 q8 q9 q10 q11 K).mpr ?_⟩
  rintro _ rfl _ rfl _ rfl _ rfl _ rfl _ rfl _ rfl _ rfl _ rfl _ rfl _ rfl _ rfl
  exact h2
 ·exact h.elim
def kJs:Ef Tryz.prog:=mkE mixed 105 Tryz.func105 (by decide) (by kernel_rfl) [] [.ptr 12 false,.ptr 12 true] gJs js_good js_ok
def cxFa:Cx Tryz.prog:= { rds:= [cInf],efs:= [cSz,kSo,kSet],eqs:= [] }
theorem vc_fa (z0 z1 z2 z3 z4 z5 z6 z7 z8 z9 z10 z11 x0 x1 x2 x3 x4 x5 x6 x7:Int) (K:SV→Mem→Prop):(execF cxFa u9 Tryz.f55 64 [.ptr 1 (.lit 0),.ptr 9 (.lit 0)] (memL [(1,⟨false,w12 z0 z1 z2 z3 z4 z5 z6 z7 z8 z9 z10 z11⟩),(9,⟨true,w8 x0 x1 x2 x3 x4 x5 x6 x7⟩)]) K)=
 ((W4 x0 x1 x2 x3∧W4 x4 x5 x6 x7)∧(decide (V4 x0 x1 x2 x3=0∧V4 x4 x5 x6 x7=0)=true→K (.ptr 1 (.lit 0)) (memL [(1,⟨false,w12 15230403791020821917 754611498739239741 7381016538464732716 1011752739694698287 15230403791020821917 754611498739239741 7381016538464732716 1011752739694698287 0 0 0 0⟩),(9,⟨true,w8 x0 x1 x2 x3 x4 x5 x6 x7⟩)]))∧
  (decide (V4 x0 x1 x2 x3=0∧V4 x4 x5 x6 x7=0)=false→K (.ptr 1 (.lit 0)) (memL [(1,⟨false,w12 x0 x1 x2 x3 x4 x5 x6 x7 15230403791020821917 754611498739239741 7381016538464732716 1011752739694698287⟩),(9,⟨true,w8 x0 x1 x2 x3 x4 x5 x6 x7⟩)]))):=by kernel_rfl
theorem El.zero {a b c d:Int} {X:Nat} (h:El a b c d (mont X)) (l:X<qN):V4 a b c d=0↔X=0:=by
 rw[h.val,←mont_z l]
 omega
theorem El.same {a b c d a' b' c' d':Int} {X Y:Nat} (h:El a b c d (mont X)) (k:El a' b' c' d' (mont Y)) (l:X<qN) (m:Y<qN):V4 a b c d=V4 a' b' c' d'↔X=Y:=by
 rw[h.val,k.val,←mont_q l m]
 omega
theorem one_el:El 15230403791020821917 754611498739239741 7381016538464732716 1011752739694698287 (mont 1):=⟨by decide +kernel,by decide +kernel,by decide +kernel,by decide +kernel,mont_lt _⟩
theorem zero_el:El 0 0 0 0 (mont 0):=⟨by decide +kernel,by decide +kernel,by decide +kernel,by decide +kernel,mont_lt _⟩
def gFa:G0:=fun args l K=>
 match args,l with
 | [.ptr 1 (.lit 0),.ptr 9 (.lit 0)],[(1,⟨false,z⟩),(9,⟨true,x⟩)]=>c12 z fun _ _ _ _ _ _ _ _ _ _ _ _=>c8 x fun x0 x1 x2 x3 x4 x5 x6 x7=>∃X Y,(El x0 x1 x2 x3 (mont X)∧El x4 x5 x6 x7 (mont Y)∧X<qN∧Y<qN)∧∀j0 j1 j2 j3 j4 j5 j6 j7 j8 j9 j10 j11,Jp j0 j1 j2 j3 j4 j5 j6 j7 j8 j9 j10 j11 (jfr X Y)→K (.ptr 1 (.lit 0)) (memL [(1,⟨false,w12 j0 j1 j2 j3 j4 j5 j6 j7 j8 j9 j10 j11⟩),(9,⟨true,w8 x0 x1 x2 x3 x4 x5 x6 x7⟩)])
 | _,_=>False
theorem jfr_ex {X Y:Nat} (l:X<qN) (m:Y<qN):∃j0 j1 j2 j3 j4 j5 j6 j7 j8 j9 j10 j11,Jp j0 j1 j2 j3 j4 j5 j6 j7 j8 j9 j10 j11 (jfr X Y):=Jp.ex (jf1_lt l) (jf1_lt m) (jfZ_lt _ _)
theorem fa_good:Good gFa:=by
 constructor
 ·intro args l K K' hk h
  unfold gFa at h ⊢
  split at h
  ·exact c12_mono (fun _ _ _ _ _ _ _ _ _ _ _ _ h=>c8_mono (fun _ _ _ _ _ _ _ _ h=>h.elim fun X h=>h.elim fun Y h=>⟨X,Y,h.1,fun j0 j1 j2 j3 j4 j5 j6 j7 j8 j9 j10 j11 hj=>hk _ _ (h.2 j0 j1 j2 j3 j4 j5 j6 j7 j8 j9 j10 j11 hj)⟩) h) h
  ·exact h.elim
 ·intro args l K h
  unfold gFa at h
  split at h
  ·obtain ⟨_,_,_,_,_,_,_,_,_,_,_,_,_,h⟩:=c12_ex h
   obtain ⟨_,_,_,_,_,_,_,_,_,h⟩:=c8_ex h
   obtain ⟨X,Y,⟨_,_,l,m⟩,h⟩:=h
   obtain ⟨j0,j1,j2,j3,j4,j5,j6,j7,j8,j9,j10,j11,e⟩:=jfr_ex l m
   exact ⟨_,_,h _ _ _ _ _ _ _ _ _ _ _ _ e⟩
  ·exact h.elim
theorem fa_ok (args:List SV) (l:List (Nat×Reg)) (K:SV→Mem→Prop) (hup:KUp K) (h:gFa args l K):∃U,execF cxFa U Tryz.f55 64 args (memL l) K:=by
 unfold gFa at h
 split at h
 ·obtain ⟨z0,z1,z2,z3,z4,z5,z6,z7,z8,z9,z10,z11,rfl,h1⟩:=c12_ex h
  obtain ⟨x0,x1,x2,x3,x4,x5,x6,x7,rfl,X,Y,⟨hx,hy,l,m⟩,hK⟩:=c8_ex h1
  refine ⟨u9,(vc_fa z0 z1 z2 z3 z4 z5 z6 z7 z8 z9 z10 z11 x0 x1 x2 x3 x4 x5 x6 x7 K).mpr ⟨⟨hx.wd,hy.wd⟩,fun h=> ?_,fun h=> ?_⟩⟩
  ·have h:X=0∧Y=0:=by simpa only[decide_eq_true_eq,hx.zero l,hy.zero m]using h
   have e:jfr X Y=⟨1,1,0⟩:=by unfold jfr jf1 jfZ;rw[if_pos h,if_pos h,if_pos h]
   rw[e]at hK
   exact hK _ _ _ _ _ _ _ _ _ _ _ _ ⟨one_el,one_el,zero_el,by decide,by decide,by decide⟩
  ·have h:¬(X=0∧Y=0):=by simpa only[decide_eq_false_iff_not,hx.zero l,hy.zero m]using h
   have e:jfr X Y=⟨X,Y,1⟩:=by unfold jfr jf1 jfZ;rw[if_neg h,if_neg h,if_neg h]
   rw[e]at hK
   exact hK _ _ _ _ _ _ _ _ _ _ _ _ ⟨hx,hy,one_el,l,m,show 1<qN by decide⟩
 ·exact h.elim
def kFa:Ef Tryz.prog:=mkE mixed 55 Tryz.func55 (by decide) (by kernel_rfl) [] [.ptr 12 false,.ptr 8 true] gFa fa_good fa_ok
theorem mulC_q {X Y:Nat} {a0 a1 a2 a3 b0 b1 b2 b3:Int} {K:Int→Int→Int→Int→Prop} (ha:El a0 a1 a2 a3 (mont X)) (hb:El b0 b1 b2 b3 (mont Y)) (h:∀y0 y1 y2 y3,El y0 y1 y2 y3 (mont (mq X Y))→K y0 y1 y2 y3):mulC a0 a1 a2 a3 b0 b1 b2 b3 K:=mulC_m ha hb h
theorem addC_q {X Y:Nat} {a0 a1 a2 a3 b0 b1 b2 b3:Int} {K:Int→Int→Int→Int→Prop} (ha:El a0 a1 a2 a3 (mont X)) (hb:El b0 b1 b2 b3 (mont Y)) (h:∀y0 y1 y2 y3,El y0 y1 y2 y3 (mont (aq X Y))→K y0 y1 y2 y3):addC a0 a1 a2 a3 b0 b1 b2 b3 K:=addC_m ha hb h
theorem dblC_q {X:Nat} {a0 a1 a2 a3:Int} {K:Int→Int→Int→Int→Prop} (ha:El a0 a1 a2 a3 (mont X)) (h:∀y0 y1 y2 y3,El y0 y1 y2 y3 (mont (db2 X))→K y0 y1 y2 y3):addC a0 a1 a2 a3 a0 a1 a2 a3 K:=addC_m ha ha h
theorem subC_q {X Y:Nat} {a0 a1 a2 a3 b0 b1 b2 b3:Int} {K:Int→Int→Int→Int→Prop} (ha:El a0 a1 a2 a3 (mont X)) (hb:El b0 b1 b2 b3 (mont Y)) (hY:Y<qN) (h:∀y0 y1 y2 y3,El y0 y1 y2 y3 (mont (dq X Y))→K y0 y1 y2 y3):subC a0 a1 a2 a3 b0 b1 b2 b3 K:=subC_m ha hb hY h
def cxDa:Cx Tryz.prog:= { rds:= [],efs:= [kSqr,kAddA,kSubA,kDb,kMulA],eqs:= [] }
def DaC (p0 p1 p2 p3 p4 p5 p6 p7 p8 p9 p10 p11:Int) (K:SV→Mem→Prop):Prop:=
 mulC p0 p1 p2 p3 p0 p1 p2 p3 fun a0 b0 c0 d0=>
 mulC p4 p5 p6 p7 p4 p5 p6 p7 fun a1 b1 c1 d1=>
 mulC a1 b1 c1 d1 a1 b1 c1 d1 fun a2 b2 c2 d2=>
 addC p0 p1 p2 p3 a1 b1 c1 d1 fun a3 b3 c3 d3=>
 mulC a3 b3 c3 d3 a3 b3 c3 d3 fun a4 b4 c4 d4=>
 subC a4 b4 c4 d4 a0 b0 c0 d0 fun a5 b5 c5 d5=>
 subC a5 b5 c5 d5 a2 b2 c2 d2 fun a6 b6 c6 d6=>
 addC a6 b6 c6 d6 a6 b6 c6 d6 fun a7 b7 c7 d7=>
 addC a0 b0 c0 d0 a0 b0 c0 d0 fun a8 b8 c8 d8=>
 addC a8 b8 c8 d8 a0 b0 c0 d0 fun a9 b9 c9 d9=>
 mulC a9 b9 c9 d9 a9 b9 c9 d9 fun a10 b10 c10 d10=>
 addC a7 b7 c7 d7 a7 b7 c7 d7 fun a11 b11 c11 d11=>
 mulC p4 p5 p6 p7 p8 p9 p10 p11 fun a12 b12 c12 d12=>
 addC a12 b12 c12 d12 a12 b12 c12 d12 fun a13 b13 c13 d13=>
 subC a10 b10 c10 d10 a11 b11 c11 d11 fun a14 b14 c14 d14=>
 subC a7 b7 c7 d7 a14 b14 c14 d14 fun a15 b15 c15 d15=>
 mulC a15 b15 c15 d15 a9 b9 c9 d9 fun a16 b16 c16 d16=>
 addC a2 b2 c2 d2 a2 b2 c2 d2 fun a17 b17 c17 d17=>
 addC a17 b17 c17 d17 a17 b17 c17 d17 fun a18 b18 c18 d18=>
 addC a18 b18 c18 d18 a18 b18 c18 d18 fun a19 b19 c19 d19=>
 subC a16 b16 c16 d16 a19 b19 c19 d19 fun a20 b20 c20 d20=>
 K (.ptr 1 (.lit 0)) (memL [(1,⟨false,w12 a14 b14 c14 d14 a20 b20 c20 d20 a13 b13 c13 d13⟩),(521,⟨false,w4 a0 b0 c0 d0⟩),(529,⟨false,w4 a1 b1 c1 d1⟩),(537,⟨false,w4 a2 b2 c2 d2⟩),(545,⟨false,w4 a7 b7 c7 d7⟩),(553,⟨false,w4 a9 b9 c9 d9⟩),(561,⟨false,w4 a10 b10 c10 d10⟩),(569,⟨false,w4 a19 b19 c19 d19⟩)])
theorem vc_da (p0 p1 p2 p3 p4 p5 p6 p7 p8 p9 p10 p11:Int) (K:SV→Mem→Prop):execF cxDa u9 Tryz.f106 64 [.ptr 1 (.lit 0)] (memL [(1,⟨false,w12 p0 p1 p2 p3 p4 p5 p6 p7 p8 p9 p10 p11⟩)]) K=DaC p0 p1 p2 p3 p4 p5 p6 p7 p8 p9 p10 p11 K:=by kernel_rfl
theorem da_walk {p0 p1 p2 p3 p4 p5 p6 p7 p8 p9 p10 p11:Int} {p:J3} {K:SV→Mem→Prop} (hup:KUp K) (hp:Jp p0 p1 p2 p3 p4 p5 p6 p7 p8 p9 p10 p11 p) (hK:∀j0 j1 j2 j3 j4 j5 j6 j7 j8 j9 j10 j11,Jp j0 j1 j2 j3 j4 j5 j6 j7 j8 j9 j10 j11 (dbl p)→K (.ptr 1 (.lit 0)) (memL [(1,⟨false,w12 j0 j1 j2 j3 j4 j5 j6 j7 j8 j9 j10 j11⟩)])):DaC p0 p1 p2 p3 p4 p5 p6 p7 p8 p9 p10 p11 K:=by
 unfold DaC
 refine mulC_q hp.x hp.x ?_
 intro a0 b0 c0 d0 h0
 refine mulC_q hp.y hp.y ?_
 intro a1 b1 c1 d1 h1
 refine mulC_q h1 h1 ?_
 intro a2 b2 c2 d2 h2
 refine addC_q hp.x h1 ?_
 intro a3 b3 c3 d3 h3
 refine mulC_q h3 h3 ?_
 intro a4 b4 c4 d4 h4
 refine subC_q h4 h0 (mq_lt _ _) ?_
 intro a5 b5 c5 d5 h5
 refine subC_q h5 h2 (mq_lt _ _) ?_
 intro a6 b6 c6 d6 h6
 refine dblC_q h6 ?_
 intro a7 b7 c7 d7 h7
 refine dblC_q h0 ?_
 intro a8 b8 c8 d8 h8
 refine addC_q h8 h0 ?_
 intro a9 b9 c9 d9 h9
 refine mulC_q h9 h9 ?_
 intro a10 b10 c10 d10 h10
 refine dblC_q h7 ?_
 intro a11 b11 c11 d11 h11
 refine mulC_q hp.y hp.z ?_
 intro a12 b12 c12 d12 h12
 refine dblC_q h12 ?_
 intro a13 b13 c13 d13 h13
 refine subC_q h10 h11 (db2_lt _) ?_
 intro a14 b14 c14 d14 h14
 refine subC_q h7 h14 (dq_lt _ _) ?_
 intro a15 b15 c15 d15 h15
 refine mulC_q h15 h9 ?_
 intro a16 b16 c16 d16 h16
 refine dblC_q h2 ?_
 intro a17 b17 c17 d17 h17
 refine dblC_q h17 ?_
 intro a18 b18 c18 d18 h18
 refine dblC_q h18 ?_
 intro a19 b19 c19 d19 h19
 refine subC_q h16 h19 (db2_lt _) ?_
 intro a20 b20 c20 d20 h20
 refine hup.le (memL_sub [1,521,529,537,545,553,561,569] rfl (by decide) (by
  intro x hx
  simp only[List.mem_cons,List.not_mem_nil,or_false]at hx ⊢
  simp[hx])) (hK _ _ _ _ _ _ _ _ _ _ _ _ ⟨h14,h20,h13,dbX_lt _ _,dq_lt _ _,db2_lt _⟩)
def gDa:G0:=fun args l K=>
 match args,l with
 | [.ptr 1 (.lit 0)],[(1,⟨false,z⟩)]=>c12 z fun p0 p1 p2 p3 p4 p5 p6 p7 p8 p9 p10 p11=>∃p,Jp p0 p1 p2 p3 p4 p5 p6 p7 p8 p9 p10 p11 p∧∀j0 j1 j2 j3 j4 j5 j6 j7 j8 j9 j10 j11,Jp j0 j1 j2 j3 j4 j5 j6 j7 j8 j9 j10 j11 (dbl p)→K (.ptr 1 (.lit 0)) (memL [(1,⟨false,w12 j0 j1 j2 j3 j4 j5 j6 j7 j8 j9 j10 j11⟩)])
 | _,_=>False
theorem dbl_ex (p:J3):∃j0 j1 j2 j3 j4 j5 j6 j7 j8 j9 j10 j11,Jp j0 j1 j2 j3 j4 j5 j6 j7 j8 j9 j10 j11 (dbl p):=Jp.ex (dbX_lt _ _) (dq_lt _ _) (db2_lt _)
theorem da_good:Good gDa:=by
 constructor
 ·intro args l K K' hk h
  unfold gDa at h ⊢
  split at h
  ·exact c12_mono (fun _ _ _ _ _ _ _ _ _ _ _ _ h=>h.elim fun p h=>⟨p,h.1,fun j0 j1 j2 j3 j4 j5 j6 j7 j8 j9 j10 j11 hj=>hk _ _ (h.2 j0 j1 j2 j3 j4 j5 j6 j7 j8 j9 j10 j11 hj)⟩) h
  ·exact h.elim
 ·intro args l K h
  unfold gDa at h
  split at h
  ·obtain ⟨_,_,_,_,_,_,_,_,_,_,_,_,_,h⟩:=c12_ex h
   obtain ⟨p,_,h⟩:=h
   obtain ⟨j0,j1,j2,j3,j4,j5,j6,j7,j8,j9,j10,j11,e⟩:=dbl_ex p
   exact ⟨_,_,h _ _ _ _ _ _ _ _ _ _ _ _ e⟩
  ·exact h.elim
theorem da_ok (args:List SV) (l:List (Nat×Reg)) (K:SV→Mem→Prop) (hup:KUp K) (h:gDa args l K):∃U,execF cxDa U Tryz.f106 64 args (memL l) K:=by
 unfold gDa at h
 split at h
 ·obtain ⟨p0,p1,p2,p3,p4,p5,p6,p7,p8,p9,p10,p11,rfl,p,hp,hK⟩:=c12_ex h
  exact ⟨u9,(vc_da p0 p1 p2 p3 p4 p5 p6 p7 p8 p9 p10 p11 K).mpr (da_walk hup hp hK)⟩
 ·exact h.elim
def kDa:Ef Tryz.prog:=mkE mixed 106 Tryz.func106 (by decide) (by kernel_rfl) [] [.ptr 12 false] gDa da_good da_ok
def cxAa:Cx Tryz.prog:= { rds:= [cIz,cEq],efs:= [kJs,kSqr,kMulA,kSubA,kAddA,kDb,kDa],eqs:= [] }
def ChC (p8 p9 p10 p11 q0 q1 q2 q3 q4 q5 q6 q7 q8 q9 q10 q11 za0 za1 za2 za3 zb0 zb1 zb2 zb3 u0 u1 u2 u3 w0 w1 w2 w3 s0 s1 s2 s3 t0 t1 t2 t3:Int) (K:SV→Mem→Prop):Prop:=
 subC w0 w1 w2 w3 u0 u1 u2 u3 fun fa0 fb0 fc0 fd0=>
 addC fa0 fb0 fc0 fd0 fa0 fb0 fc0 fd0 fun fa1 fb1 fc1 fd1=>
 mulC fa1 fb1 fc1 fd1 fa1 fb1 fc1 fd1 fun fa2 fb2 fc2 fd2=>
 mulC fa0 fb0 fc0 fd0 fa2 fb2 fc2 fd2 fun fa3 fb3 fc3 fd3=>
 subC t0 t1 t2 t3 s0 s1 s2 s3 fun fa4 fb4 fc4 fd4=>
 addC fa4 fb4 fc4 fd4 fa4 fb4 fc4 fd4 fun fa5 fb5 fc5 fd5=>
 mulC u0 u1 u2 u3 fa2 fb2 fc2 fd2 fun fa6 fb6 fc6 fd6=>
 mulC fa5 fb5 fc5 fd5 fa5 fb5 fc5 fd5 fun fa7 fb7 fc7 fd7=>
 subC fa7 fb7 fc7 fd7 fa3 fb3 fc3 fd3 fun fa8 fb8 fc8 fd8=>
 subC fa8 fb8 fc8 fd8 fa6 fb6 fc6 fd6 fun fa9 fb9 fc9 fd9=>
 subC fa9 fb9 fc9 fd9 fa6 fb6 fc6 fd6 fun fa10 fb10 fc10 fd10=>
 subC fa6 fb6 fc6 fd6 fa10 fb10 fc10 fd10 fun fa11 fb11 fc11 fd11=>
 mulC fa11 fb11 fc11 fd11 fa5 fb5 fc5 fd5 fun fa12 fb12 fc12 fd12=>
 mulC s0 s1 s2 s3 fa3 fb3 fc3 fd3 fun fa13 fb13 fc13 fd13=>
 addC fa13 fb13 fc13 fd13 fa13 fb13 fc13 fd13 fun fa14 fb14 fc14 fd14=>
 subC fa12 fb12 fc12 fd12 fa14 fb14 fc14 fd14 fun fa15 fb15 fc15 fd15=>
 addC p8 p9 p10 p11 q8 q9 q10 q11 fun fa16 fb16 fc16 fd16=>
 mulC fa16 fb16 fc16 fd16 fa16 fb16 fc16 fd16 fun fa17 fb17 fc17 fd17=>
 subC fa17 fb17 fc17 fd17 za0 za1 za2 za3 fun fa18 fb18 fc18 fd18=>
 subC fa18 fb18 fc18 fd18 zb0 zb1 zb2 zb3 fun fa19 fb19 fc19 fd19=>
 mulC fa19 fb19 fc19 fd19 fa0 fb0 fc0 fd0 fun fa20 fb20 fc20 fd20=>
 K (.ptr 1 (.lit 0)) (memL [(1,⟨false,w12 fa10 fb10 fc10 fd10 fa15 fb15 fc15 fd15 fa20 fb20 fc20 fd20⟩),(9,⟨true,w12 q0 q1 q2 q3 q4 q5 q6 q7 q8 q9 q10 q11⟩),(585,⟨false,w4 za0 za1 za2 za3⟩),(593,⟨false,w4 zb0 zb1 zb2 zb3⟩),(601,⟨false,w4 u0 u1 u2 u3⟩),(609,⟨false,w4 w0 w1 w2 w3⟩),(617,⟨false,w4 fa14 fb14 fc14 fd14⟩),(625,⟨false,w4 t0 t1 t2 t3⟩),(633,⟨false,w4 fa0 fb0 fc0 fd0⟩),(641,⟨false,w4 fa2 fb2 fc2 fd2⟩),(649,⟨false,w4 fa3 fb3 fc3 fd3⟩),(657,⟨false,w4 fa5 fb5 fc5 fd5⟩),(665,⟨false,w4 fa6 fb6 fc6 fd6⟩)])
def AaC (p0 p1 p2 p3 p4 p5 p6 p7 p8 p9 p10 p11 q0 q1 q2 q3 q4 q5 q6 q7 q8 q9 q10 q11:Int) (K:SV→Mem→Prop):Prop:=
 W4 p8 p9 p10 p11∧(decide (V4 p8 p9 p10 p11=0)=true→K (.ptr 1 (.lit 0)) (memL [(1,⟨false,w12 q0 q1 q2 q3 q4 q5 q6 q7 q8 q9 q10 q11⟩),(9,⟨true,w12 q0 q1 q2 q3 q4 q5 q6 q7 q8 q9 q10 q11⟩)]))∧(decide (V4 p8 p9 p10 p11=0)=false→
 W4 q8 q9 q10 q11∧(decide (V4 q8 q9 q10 q11=0)=true→K (.ptr 1 (.lit 0)) (memL [(1,⟨false,w12 p0 p1 p2 p3 p4 p5 p6 p7 p8 p9 p10 p11⟩),(9,⟨true,w12 q0 q1 q2 q3 q4 q5 q6 q7 q8 q9 q10 q11⟩)]))∧(decide (V4 q8 q9 q10 q11=0)=false→
 mulC q8 q9 q10 q11 q8 q9 q10 q11 fun ea0 eb0 ec0 ed0=>
 mulC p8 p9 p10 p11 p8 p9 p10 p11 fun ea1 eb1 ec1 ed1=>
 mulC q0 q1 q2 q3 ea1 eb1 ec1 ed1 fun ea2 eb2 ec2 ed2=>
 mulC p0 p1 p2 p3 ea0 eb0 ec0 ed0 fun ea3 eb3 ec3 ed3=>
 mulC q4 q5 q6 q7 p8 p9 p10 p11 fun ea4 eb4 ec4 ed4=>
 mulC ea4 eb4 ec4 ed4 ea1 eb1 ec1 ed1 fun ea5 eb5 ec5 ed5=>
 mulC p4 p5 p6 p7 q8 q9 q10 q11 fun ea6 eb6 ec6 ed6=>
 mulC ea6 eb6 ec6 ed6 ea0 eb0 ec0 ed0 fun ea7 eb7 ec7 ed7=>
 (W4 ea2 eb2 ec2 ed2∧W4 ea3 eb3 ec3 ed3)∧(decide (V4 ea2 eb2 ec2 ed2=V4 ea3 eb3 ec3 ed3)=true→(W4 ea5 eb5 ec5 ed5∧W4 ea7 eb7 ec7 ed7)∧
  (decide (V4 ea5 eb5 ec5 ed5=V4 ea7 eb7 ec7 ed7)=true→∃p,Jp p0 p1 p2 p3 p4 p5 p6 p7 p8 p9 p10 p11 p∧∀j0 j1 j2 j3 j4 j5 j6 j7 j8 j9 j10 j11,Jp j0 j1 j2 j3 j4 j5 j6 j7 j8 j9 j10 j11 (dbl p)→K (.ptr 1 (.lit 0)) (memL [(1,⟨false,w12 j0 j1 j2 j3 j4 j5 j6 j7 j8 j9 j10 j11⟩),(9,⟨true,w12 q0 q1 q2 q3 q4 q5 q6 q7 q8 q9 q10 q11⟩),(585,⟨false,w4 ea0 eb0 ec0 ed0⟩),(593,⟨false,w4 ea1 eb1 ec1 ed1⟩),(601,⟨false,w4 ea2 eb2 ec2 ed2⟩),(609,⟨false,w4 ea3 eb3 ec3 ed3⟩),(617,⟨false,w4 ea5 eb5 ec5 ed5⟩),(625,⟨false,w4 ea7 eb7 ec7 ed7⟩),(633,⟨false,.cells [.int .u64 (.lit 0),.int .u64 (.lit 0),.int .u64 (.lit 0),.int .u64 (.lit 0)]⟩),(641,⟨false,.cells [.int .u64 (.lit 0),.int .u64 (.lit 0),.int .u64 (.lit 0),.int .u64 (.lit 0)]⟩),(649,⟨false,.cells [.int .u64 (.lit 0),.int .u64 (.lit 0),.int .u64 (.lit 0),.int .u64 (.lit 0)]⟩),(657,⟨false,.cells [.int .u64 (.lit 0),.int .u64 (.lit 0),.int .u64 (.lit 0),.int .u64 (.lit 0)]⟩),(665,⟨false,.cells [.int .u64 (.lit 0),.int .u64 (.lit 0),.int .u64 (.lit 0),.int .u64 (.lit 0)]⟩)]))∧(decide (V4 ea5 eb5 ec5 ed5=V4 ea7 eb7 ec7 ed7)=false→ChC p8 p9 p10 p11 q0 q1 q2 q3 q4 q5 q6 q7 q8 q9 q10 q11 ea0 eb0 ec0 ed0 ea1 eb1 ec1 ed1 ea2 eb2 ec2 ed2 ea3 eb3 ec3 ed3 ea5 eb5 ec5 ed5 ea7 eb7 ec7 ed7 K))∧
  (decide (V4 ea2 eb2 ec2 ed2=V4 ea3 eb3 ec3 ed3)=false→ChC p8 p9 p10 p11 q0 q1 q2 q3 q4 q5 q6 q7 q8 q9 q10 q11 ea0 eb0 ec0 ed0 ea1 eb1 ec1 ed1 ea2 eb2 ec2 ed2 ea3 eb3 ec3 ed3 ea5 eb5 ec5 ed5 ea7 eb7 ec7 ed7 K)))
theorem vc_aa (p0 p1 p2 p3 p4 p5 p6 p7 p8 p9 p10 p11 q0 q1 q2 q3 q4 q5 q6 q7 q8 q9 q10 q11:Int) (K:SV→Mem→Prop):execF cxAa u9 Tryz.f56 64 [.ptr 1 (.lit 0),.ptr 9 (.lit 0)] (memL [(1,⟨false,w12 p0 p1 p2 p3 p4 p5 p6 p7 p8 p9 p10 p11⟩),(9,⟨true,w12 q0 q1 q2 q3 q4 q5 q6 q7 q8 q9 q10 q11⟩)]) K=AaC p0 p1 p2 p3 p4 p5 p6 p7 p8 p9 p10 p11 q0 q1 q2 q3 q4 q5 q6 q7 q8 q9 q10 q11 K:=by kernel_rfl
theorem ch_walk {p8 p9 p10 p11 q0 q1 q2 q3 q4 q5 q6 q7 q8 q9 q10 q11 za0 za1 za2 za3 zb0 zb1 zb2 zb3 u0 u1 u2 u3 w0 w1 w2 w3 s0 s1 s2 s3 t0 t1 t2 t3:Int} {U1 U2 S1 S2 Z1 Z2:Nat} {K:SV→Mem→Prop} (hup:KUp K) (hz1:El p8 p9 p10 p11 (mont Z1)) (hz2:El q8 q9 q10 q11 (mont Z2))
  (h_za:El za0 za1 za2 za3 (mont (mq Z2 Z2))) (h_zb:El zb0 zb1 zb2 zb3 (mont (mq Z1 Z1))) (h_u:El u0 u1 u2 u3 (mont U1)) (h_w:El w0 w1 w2 w3 (mont U2)) (h_s:El s0 s1 s2 s3 (mont S1)) (h_t:El t0 t1 t2 t3 (mont S2))
  (l_u:U1<qN) (l_s:S1<qN) (hK:∀j0 j1 j2 j3 j4 j5 j6 j7 j8 j9 j10 j11,El j0 j1 j2 j3 (mont (chX U1 U2 S1 S2))→El j4 j5 j6 j7 (mont (chY U1 U2 S1 S2))→El j8 j9 j10 j11 (mont (chZ U1 U2 Z1 Z2))→K (.ptr 1 (.lit 0)) (memL [(1,⟨false,w12 j0 j1 j2 j3 j4 j5 j6 j7 j8 j9 j10 j11⟩),(9,⟨true,w12 q0 q1 q2 q3 q4 q5 q6 q7 q8 q9 q10 q11⟩)])):
  ChC p8 p9 p10 p11 q0 q1 q2 q3 q4 q5 q6 q7 q8 q9 q10 q11 za0 za1 za2 za3 zb0 zb1 zb2 zb3 u0 u1 u2 u3 w0 w1 w2 w3 s0 s1 s2 s3 t0 t1 t2 t3 K:=by
 unfold ChC
 refine subC_q h_w h_u (l_u) ?_
 intro fa0 fb0 fc0 fd0 hf0
 refine dblC_q hf0 ?_
 intro fa1 fb1 fc1 fd1 hf1
 refine mulC_q hf1 hf1 ?_
 intro fa2 fb2 fc2 fd2 hf2
 refine mulC_q hf0 hf2 ?_
 intro fa3 fb3 fc3 fd3 hf3
 refine subC_q h_t h_s (l_s) ?_
 intro fa4 fb4 fc4 fd4 hf4
 refine dblC_q hf4 ?_
 intro fa5 fb5 fc5 fd5 hf5
 refine mulC_q h_u hf2 ?_
 intro fa6 fb6 fc6 fd6 hf6
 refine mulC_q hf5 hf5 ?_
 intro fa7 fb7 fc7 fd7 hf7
 refine subC_q hf7 hf3 (mq_lt _ _) ?_
 intro fa8 fb8 fc8 fd8 hf8
 refine subC_q hf8 hf6 (mq_lt _ _) ?_
 intro fa9 fb9 fc9 fd9 hf9
 refine subC_q hf9 hf6 (mq_lt _ _) ?_
 intro fa10 fb10 fc10 fd10 hf10
 refine subC_q hf6 hf10 (dq_lt _ _) ?_
 intro fa11 fb11 fc11 fd11 hf11
 refine mulC_q hf11 hf5 ?_
 intro fa12 fb12 fc12 fd12 hf12
 refine mulC_q h_s hf3 ?_
 intro fa13 fb13 fc13 fd13 hf13
 refine dblC_q hf13 ?_
 intro fa14 fb14 fc14 fd14 hf14
 refine subC_q hf12 hf14 (db2_lt _) ?_
 intro fa15 fb15 fc15 fd15 hf15
 refine addC_q hz1 hz2 ?_
 intro fa16 fb16 fc16 fd16 hf16
 refine mulC_q hf16 hf16 ?_
 intro fa17 fb17 fc17 fd17 hf17
 refine subC_q hf17 h_za (mq_lt _ _) ?_
 intro fa18 fb18 fc18 fd18 hf18
 refine subC_q hf18 h_zb (mq_lt _ _) ?_
 intro fa19 fb19 fc19 fd19 hf19
 refine mulC_q hf19 hf0 ?_
 intro fa20 fb20 fc20 fd20 hf20
 exact hup.le (memL_sub [1,9,585,593,601,609,617,625,633,641,649,657,665] rfl (by decide) (by
  intro x hx
  simp only[List.mem_cons,List.not_mem_nil,or_false]at hx ⊢
  rcases hx with rfl | rfl<;>simp)) (hK _ _ _ _ _ _ _ _ _ _ _ _ hf10 hf15 hf20)
theorem aa_walk {p0 p1 p2 p3 p4 p5 p6 p7 p8 p9 p10 p11 q0 q1 q2 q3 q4 q5 q6 q7 q8 q9 q10 q11:Int} {p q:J3} {K:SV→Mem→Prop} (hup:KUp K) (hp:Jp p0 p1 p2 p3 p4 p5 p6 p7 p8 p9 p10 p11 p) (hq:Jp q0 q1 q2 q3 q4 q5 q6 q7 q8 q9 q10 q11 q) (hK:∀j0 j1 j2 j3 j4 j5 j6 j7 j8 j9 j10 j11,Jp j0 j1 j2 j3 j4 j5 j6 j7 j8 j9 j10 j11 (jad p q)→K (.ptr 1 (.lit 0)) (memL [(1,⟨false,w12 j0 j1 j2 j3 j4 j5 j6 j7 j8 j9 j10 j11⟩),(9,⟨true,w12 q0 q1 q2 q3 q4 q5 q6 q7 q8 q9 q10 q11⟩)])):AaC p0 p1 p2 p3 p4 p5 p6 p7 p8 p9 p10 p11 q0 q1 q2 q3 q4 q5 q6 q7 q8 q9 q10 q11 K:=by
 unfold AaC
 simp only[decide_eq_true_eq,decide_eq_false_iff_not]
 refine ⟨hp.z.wd,fun h=> ?_,fun n0=>⟨hq.z.wd,fun h=> ?_,fun n1=> ?_⟩⟩
 ·have h:=(hp.z.zero hp.lz).1 h
  have e:jad p q=q:=by unfold jad;rw[if_pos h]
  rw[e]at hK
  exact hK _ _ _ _ _ _ _ _ _ _ _ _ hq
 ·have n0:=fun e=>n0 ((hp.z.zero hp.lz).2 e)
  have h:=(hq.z.zero hq.lz).1 h
  have e:jad p q=p:=by unfold jad;rw[if_neg n0,if_pos h]
  rw[e]at hK
  exact hK _ _ _ _ _ _ _ _ _ _ _ _ hp
 have n0:=fun e=>n0 ((hp.z.zero hp.lz).2 e)
 have n1:=fun e=>n1 ((hq.z.zero hq.lz).2 e)
 refine mulC_q hq.z hq.z ?_
 intro ea0 eb0 ec0 ed0 he0
 refine mulC_q hp.z hp.z ?_
 intro ea1 eb1 ec1 ed1 he1
 refine mulC_q hq.x he1 ?_
 intro ea2 eb2 ec2 ed2 he2
 refine mulC_q hp.x he0 ?_
 intro ea3 eb3 ec3 ed3 he3
 refine mulC_q hq.y hp.z ?_
 intro ea4 eb4 ec4 ed4 he4
 refine mulC_q he4 he1 ?_
 intro ea5 eb5 ec5 ed5 he5
 refine mulC_q hp.y hq.z ?_
 intro ea6 eb6 ec6 ed6 he6
 refine mulC_q he6 he0 ?_
 intro ea7 eb7 ec7 ed7 he7
 have uu:∀ {h:mq q.x (mq p.z p.z)≠mq p.x (mq q.z q.z)∨mq (mq q.y p.z) (mq p.z p.z)≠mq (mq p.y q.z) (mq q.z q.z)},ChC p8 p9 p10 p11 q0 q1 q2 q3 q4 q5 q6 q7 q8 q9 q10 q11 ea0 eb0 ec0 ed0 ea1 eb1 ec1 ed1 ea2 eb2 ec2 ed2 ea3 eb3 ec3 ed3 ea5 eb5 ec5 ed5 ea7 eb7 ec7 ed7 K:=by
  intro h
  have h:¬(adU q.x p.z=adU p.x q.z∧adS q.y p.z p.z=adS p.y q.z q.z):=fun k=>h.elim (fun h=>h k.1) (fun h=>h k.2)
  have e:jad p q=chd p q:=by unfold jad;rw[if_neg n0,if_neg n1,if_neg h]
  rw[e]at hK
  exact ch_walk hup hp.z hq.z he0 he1 he2 he3 he5 he7 (mq_lt _ _) (mq_lt _ _) fun j0 j1 j2 j3 j4 j5 j6 j7 j8 j9 j10 j11 hx hy hz=>hK j0 j1 j2 j3 j4 j5 j6 j7 j8 j9 j10 j11 ⟨hx,hy,hz,chX_lt _ _ _ _,dq_lt _ _,mq_lt _ _⟩
 refine ⟨⟨he2.wd,he3.wd⟩,fun eu=>⟨⟨he5.wd,he7.wd⟩,fun es=> ?_,fun ns=>uu (h:= .inr fun e=>ns ((he5.same he7 (mq_lt _ _) (mq_lt _ _)).2 e))⟩,fun nu=>uu (h:= .inl fun e=>nu ((he2.same he3 (mq_lt _ _) (mq_lt _ _)).2 e))⟩
 have eu:=(he2.same he3 (mq_lt _ _) (mq_lt _ _)).1 eu
 have es:=(he5.same he7 (mq_lt _ _) (mq_lt _ _)).1 es
 have h:adU q.x p.z=adU p.x q.z∧adS q.y p.z p.z=adS p.y q.z q.z:=⟨eu,es⟩
 have e:jad p q=dbl p:=by unfold jad;rw[if_neg n0,if_neg n1,if_pos h]
 rw[e]at hK
 exact ⟨p,hp,fun j0 j1 j2 j3 j4 j5 j6 j7 j8 j9 j10 j11 hj=>hup.le (memL_sub [1,9,585,593,601,609,617,625,633,641,649,657,665] rfl (by decide) (by
  intro x hx
  simp only[List.mem_cons,List.not_mem_nil,or_false]at hx ⊢
  rcases hx with rfl | rfl<;>simp)) (hK j0 j1 j2 j3 j4 j5 j6 j7 j8 j9 j10 j11 hj)⟩
def gAa:G0:=fun args l K=>
 match args,l with
 | [.ptr 1 (.lit 0),.ptr 9 (.lit 0)],[(1,⟨false,x⟩),(9,⟨true,y⟩)]=>c12 x fun p0 p1 p2 p3 p4 p5 p6 p7 p8 p9 p10 p11=>c12 y fun q0 q1 q2 q3 q4 q5 q6 q7 q8 q9 q10 q11=>∃p q,(Jp p0 p1 p2 p3 p4 p5 p6 p7 p8 p9 p10 p11 p∧Jp q0 q1 q2 q3 q4 q5 q6 q7 q8 q9 q10 q11 q)∧∀j0 j1 j2 j3 j4 j5 j6 j7 j8 j9 j10 j11,Jp j0 j1 j2 j3 j4 j5 j6 j7 j8 j9 j10 j11 (jad p q)→K (.ptr 1 (.lit 0)) (memL [(1,⟨false,w12 j0 j1 j2 j3 j4 j5 j6 j7 j8 j9 j10 j11⟩),(9,⟨true,w12 q0 q1 q2 q3 q4 q5 q6 q7 q8 q9 q10 q11⟩)])
 | _,_=>False
theorem Jp.lt {p0 p1 p2 p3 p4 p5 p6 p7 p8 p9 p10 p11:Int} {p:J3} (h:Jp p0 p1 p2 p3 p4 p5 p6 p7 p8 p9 p10 p11 p):p.x<qN∧p.y<qN∧p.z<qN:=⟨h.lx,h.ly,h.lz⟩
theorem aa_good:Good gAa:=by
 constructor
 ·intro args l K K' hk h
  unfold gAa at h ⊢
  split at h
  ·exact c12_mono (fun _ _ _ _ _ _ _ _ _ _ _ _ h=>c12_mono (fun _ _ _ _ _ _ _ _ _ _ _ _ h=>h.elim fun p h=>h.elim fun q h=>⟨p,q,h.1,fun j0 j1 j2 j3 j4 j5 j6 j7 j8 j9 j10 j11 hj=>hk _ _ (h.2 j0 j1 j2 j3 j4 j5 j6 j7 j8 j9 j10 j11 hj)⟩) h) h
  ·exact h.elim
 ·intro args l K h
  unfold gAa at h
  split at h
  ·obtain ⟨_,_,_,_,_,_,_,_,_,_,_,_,_,h⟩:=c12_ex h
   obtain ⟨_,_,_,_,_,_,_,_,_,_,_,_,_,h⟩:=c12_ex h
   obtain ⟨p,q,⟨hp,hq⟩,h⟩:=h
   obtain ⟨a,b,c⟩:=jad_lt hp.lt hq.lt
   obtain ⟨j0,j1,j2,j3,j4,j5,j6,j7,j8,j9,j10,j11,e⟩:=Jp.ex a b c
   exact ⟨_,_,h _ _ _ _ _ _ _ _ _ _ _ _ e⟩
  ·exact h.elim
theorem aa_ok (args:List SV) (l:List (Nat×Reg)) (K:SV→Mem→Prop) (hup:KUp K) (h:gAa args l K):∃U,execF cxAa U Tryz.f56 64 args (memL l) K:=by
 unfold gAa at h
 split at h
 ·obtain ⟨p0,p1,p2,p3,p4,p5,p6,p7,p8,p9,p10,p11,rfl,h1⟩:=c12_ex h
  obtain ⟨q0,q1,q2,q3,q4,q5,q6,q7,q8,q9,q10,q11,rfl,p,q,⟨hp,hq⟩,hK⟩:=c12_ex h1
  exact ⟨u9,(vc_aa p0 p1 p2 p3 p4 p5 p6 p7 p8 p9 p10 p11 q0 q1 q2 q3 q4 q5 q6 q7 q8 q9 q10 q11 K).mpr (aa_walk hup hp hq hK)⟩
 ·exact h.elim
def kAa:Ef Tryz.prog:=mkE mixed 56 Tryz.func56 (by decide) (by kernel_rfl) [] [.ptr 12 false,.ptr 12 true] gAa aa_good aa_ok
def cxFj:Cx Tryz.prog:= { rds:= [cIz],efs:= [cSz,kSqr,kMulA,kIv],eqs:= [] }
def z4r:Reg:=⟨false,.cells [.int .u64 (.lit 0),.int .u64 (.lit 0),.int .u64 (.lit 0),.int .u64 (.lit 0)]⟩
def FjC (p0 p1 p2 p3 p4 p5 p6 p7 p8 p9 p10 p11:Int) (K:SV→Mem→Prop):Prop:=
 W4 p8 p9 p10 p11∧(decide (V4 p8 p9 p10 p11=0)=true→K (.ptr 1 (.lit 0)) (memL [(1,⟨false,w8 0 0 0 0 0 0 0 0⟩),(9,⟨true,w12 p0 p1 p2 p3 p4 p5 p6 p7 p8 p9 p10 p11⟩),(521,z4r),(529,z4r)]))∧
 (decide (V4 p8 p9 p10 p11=0)=false→ivC p8 p9 p10 p11 fun a0 a1 a2 a3=>mulC a0 a1 a2 a3 a0 a1 a2 a3 fun b0 b1 b2 b3=>
  mulC p0 p1 p2 p3 b0 b1 b2 b3 fun x0 x1 x2 x3=>mulC p4 p5 p6 p7 b0 b1 b2 b3 fun c0 c1 c2 c3=>mulC c0 c1 c2 c3 a0 a1 a2 a3 fun x4 x5 x6 x7=>
  K (.ptr 1 (.lit 0)) (memL [(1,⟨false,w8 x0 x1 x2 x3 x4 x5 x6 x7⟩),(9,⟨true,w12 p0 p1 p2 p3 p4 p5 p6 p7 p8 p9 p10 p11⟩),(521,⟨false,w4 a0 a1 a2 a3⟩),(529,⟨false,w4 b0 b1 b2 b3⟩)]))
theorem vc_fj (z0 z1 z2 z3 z4 z5 z6 z7 p0 p1 p2 p3 p4 p5 p6 p7 p8 p9 p10 p11:Int) (K:SV→Mem→Prop):execF cxFj u9 Tryz.f57 64 [.ptr 1 (.lit 0),.ptr 9 (.lit 0)] (memL [(1,⟨false,w8 z0 z1 z2 z3 z4 z5 z6 z7⟩),(9,⟨true,w12 p0 p1 p2 p3 p4 p5 p6 p7 p8 p9 p10 p11⟩)]) K=FjC p0 p1 p2 p3 p4 p5 p6 p7 p8 p9 p10 p11 K:=by kernel_rfl
theorem fj_walk {p0 p1 p2 p3 p4 p5 p6 p7 p8 p9 p10 p11:Int} {p:J3} {K:SV→Mem→Prop} (hup:KUp K) (hp:Jp p0 p1 p2 p3 p4 p5 p6 p7 p8 p9 p10 p11 p) (hK:∀y0 y1 y2 y3 y4 y5 y6 y7,El y0 y1 y2 y3 (mont (jtX p))→El y4 y5 y6 y7 (mont (jtY p))→K (.ptr 1 (.lit 0)) (memL [(1,⟨false,w8 y0 y1 y2 y3 y4 y5 y6 y7⟩),(9,⟨true,w12 p0 p1 p2 p3 p4 p5 p6 p7 p8 p9 p10 p11⟩)])):FjC p0 p1 p2 p3 p4 p5 p6 p7 p8 p9 p10 p11 K:=by
 unfold FjC
 simp only[decide_eq_true_eq,decide_eq_false_iff_not]
 have sub:∀ {y0 y1 y2 y3 y4 y5 y6 y7:Int} {g h:Reg},K (.ptr 1 (.lit 0)) (memL [(1,⟨false,w8 y0 y1 y2 y3 y4 y5 y6 y7⟩),(9,⟨true,w12 p0 p1 p2 p3 p4 p5 p6 p7 p8 p9 p10 p11⟩)])→K (.ptr 1 (.lit 0)) (memL [(1,⟨false,w8 y0 y1 y2 y3 y4 y5 y6 y7⟩),(9,⟨true,w12 p0 p1 p2 p3 p4 p5 p6 p7 p8 p9 p10 p11⟩),(521,g),(529,h)]):=by
  intro y0 y1 y2 y3 y4 y5 y6 y7 g h hk
  exact hup.le (memL_sub [1,9,521,529] rfl (by decide) (by
   intro x hx
   simp only[List.mem_cons,List.not_mem_nil,or_false]at hx ⊢
   rcases hx with rfl | rfl<;>simp)) hk
 refine ⟨hp.z.wd,fun h=> ?_,fun h=> ?_⟩
 ·obtain ⟨ex,ey⟩:=jt_zero ((hp.z.zero hp.lz).1 h)
  rw[ex,ey]at hK
  exact sub (hK 0 0 0 0 0 0 0 0 zero_el zero_el)
 ·have h:=fun e=>h ((hp.z.zero hp.lz).2 e)
  refine ivC_m hp.z hp.lz ?_
  intro a0 a1 a2 a3 ha
  refine mulC_q ha ha ?_
  intro b0 b1 b2 b3 hb
  refine mulC_q hp.x hb ?_
  intro x0 x1 x2 x3 hx
  refine mulC_q hp.y hb ?_
  intro c0 c1 c2 c3 hc
  refine mulC_q hc ha ?_
  intro x4 x5 x6 x7 hy
  have ex:jtX p=mq p.x (mq (inv0 p.z) (inv0 p.z)):=by unfold jtX;rw[if_neg h]
  have ey:jtY p=mq (mq p.y (mq (inv0 p.z) (inv0 p.z))) (inv0 p.z):=by unfold jtY;rw[if_neg h]
  rw[ex,ey]at hK
  exact sub (hK _ _ _ _ _ _ _ _ hx hy)
def gFj:G0:=fun args l K=>
 match args,l with
 | [.ptr 1 (.lit 0),.ptr 9 (.lit 0)],[(1,⟨false,z⟩),(9,⟨true,x⟩)]=>c8 z fun _ _ _ _ _ _ _ _=>c12 x fun p0 p1 p2 p3 p4 p5 p6 p7 p8 p9 p10 p11=>∃p,Jp p0 p1 p2 p3 p4 p5 p6 p7 p8 p9 p10 p11 p∧∀y0 y1 y2 y3 y4 y5 y6 y7,El y0 y1 y2 y3 (mont (jtX p))→El y4 y5 y6 y7 (mont (jtY p))→K (.ptr 1 (.lit 0)) (memL [(1,⟨false,w8 y0 y1 y2 y3 y4 y5 y6 y7⟩),(9,⟨true,w12 p0 p1 p2 p3 p4 p5 p6 p7 p8 p9 p10 p11⟩)])
 | _,_=>False
theorem fj_good:Good gFj:=by
 constructor
 ·intro args l K K' hk h
  unfold gFj at h ⊢
  split at h
  ·exact c8_mono (fun _ _ _ _ _ _ _ _ h=>c12_mono (fun _ _ _ _ _ _ _ _ _ _ _ _ h=>h.elim fun p h=>⟨p,h.1,fun y0 y1 y2 y3 y4 y5 y6 y7 hx hy=>hk _ _ (h.2 y0 y1 y2 y3 y4 y5 y6 y7 hx hy)⟩) h) h
  ·exact h.elim
 ·intro args l K h
  unfold gFj at h
  split at h
  ·obtain ⟨_,_,_,_,_,_,_,_,_,h⟩:=c8_ex h
   obtain ⟨_,_,_,_,_,_,_,_,_,_,_,_,_,h⟩:=c12_ex h
   obtain ⟨p,_,h⟩:=h
   exact ⟨_,_,h _ _ _ _ _ _ _ _ (El.of (mont_lt _)) (El.of (mont_lt _))⟩
  ·exact h.elim
theorem fj_ok (args:List SV) (l:List (Nat×Reg)) (K:SV→Mem→Prop) (hup:KUp K) (h:gFj args l K):∃U,execF cxFj U Tryz.f57 64 args (memL l) K:=by
 unfold gFj at h
 split at h
 ·obtain ⟨z0,z1,z2,z3,z4,z5,z6,z7,rfl,h1⟩:=c8_ex h
  obtain ⟨p0,p1,p2,p3,p4,p5,p6,p7,p8,p9,p10,p11,rfl,p,hp,hK⟩:=c12_ex h1
  exact ⟨u9,(vc_fj z0 z1 z2 z3 z4 z5 z6 z7 p0 p1 p2 p3 p4 p5 p6 p7 p8 p9 p10 p11 K).mpr (fj_walk hup hp hK)⟩
 ·exact h.elim
def kFj:Ef Tryz.prog:=mkE mixed 57 Tryz.func57 (by decide) (by kernel_rfl) [] [.ptr 8 false,.ptr 12 true] gFj fj_good fj_ok
def cxHg:Cx Tryz.prog:= { rds:= [cMc],efs:= [cFH,kFa,kAa,kFj],eqs:= [] }
def spN (ys:List Int) (j:Nat):Nat:=chN ys j%qN
def HgT (x0 x1 x2 x3 x4 x5 x6 x7 x8 x9 x10 x11 x12 x13 x14 x15:Int) (K:SV→Mem→Prop) (M:Reg→Reg→Reg→Reg→Reg→Mem):Prop:=
 ∃X Y,(El x0 x1 x2 x3 (mont X)∧El x4 x5 x6 x7 (mont Y)∧X<qN∧Y<qN)∧∀j0 j1 j2 j3 j4 j5 j6 j7 j8 j9 j10 j11,Jp j0 j1 j2 j3 j4 j5 j6 j7 j8 j9 j10 j11 (jfr X Y)→
 ∃X Y,(El x8 x9 x10 x11 (mont X)∧El x12 x13 x14 x15 (mont Y)∧X<qN∧Y<qN)∧∀k0 k1 k2 k3 k4 k5 k6 k7 k8 k9 k10 k11,Jp k0 k1 k2 k3 k4 k5 k6 k7 k8 k9 k10 k11 (jfr X Y)→
 ∃p q,(Jp k0 k1 k2 k3 k4 k5 k6 k7 k8 k9 k10 k11 p∧Jp j0 j1 j2 j3 j4 j5 j6 j7 j8 j9 j10 j11 q)∧∀m0 m1 m2 m3 m4 m5 m6 m7 m8 m9 m10 m11,Jp m0 m1 m2 m3 m4 m5 m6 m7 m8 m9 m10 m11 (jad p q)→∃p,Jp m0 m1 m2 m3 m4 m5 m6 m7 m8 m9 m10 m11 p∧∀y0 y1 y2 y3 y4 y5 y6 y7,El y0 y1 y2 y3 (mont (jtX p))→El y4 y5 y6 y7 (mont (jtY p))→
 B4 y0 y1 y2 y3 fun a b c d=>B4 y4 y5 y6 y7 fun e f g h=>K (.tup [.agg [U a,U b,U c,U d,U e,U f,U g,U h],.val .nilIface]) (M ⟨false,w8 a b c d e f g h⟩ ⟨false,w8 x0 x1 x2 x3 x4 x5 x6 x7⟩ ⟨false,w8 y0 y1 y2 y3 y4 y5 y6 y7⟩ ⟨false,w12 j0 j1 j2 j3 j4 j5 j6 j7 j8 j9 j10 j11⟩ ⟨false,w12 m0 m1 m2 m3 m4 m5 m6 m7 m8 m9 m10 m11⟩)
def Mp4 (ys:List Int) (n:Nat) (K:Int→Int→Int→Int→Int→Int→Int→Int→Prop):Prop:=
 (n+4≤ys.length∧W4 (List.getD ys n 0) (List.getD ys (n+1) 0) (List.getD ys (n+2) 0) (List.getD ys (n+3) 0)∧V4 (List.getD ys n 0) (List.getD ys (n+1) 0) (List.getD ys (n+2) 0) (List.getD ys (n+3) 0)<qI)∧B4 (mpX (List.getD ys n 0) (List.getD ys (n+1) 0) (List.getD ys (n+2) 0) (List.getD ys (n+3) 0) 0) (mpX (List.getD ys n 0) (List.getD ys (n+1) 0) (List.getD ys (n+2) 0) (List.getD ys (n+3) 0) 1) (mpX (List.getD ys n 0) (List.getD ys (n+1) 0) (List.getD ys (n+2) 0) (List.getD ys (n+3) 0) 2) (mpX (List.getD ys n 0) (List.getD ys (n+1) 0) (List.getD ys (n+2) 0) (List.getD ys (n+3) 0) 3) fun a b c d=>B4 (mpY (List.getD ys n 0) (List.getD ys (n+1) 0) (List.getD ys (n+2) 0) (List.getD ys (n+3) 0) 0) (mpY (List.getD ys n 0) (List.getD ys (n+1) 0) (List.getD ys (n+2) 0) (List.getD ys (n+3) 0) 1) (mpY (List.getD ys n 0) (List.getD ys (n+1) 0) (List.getD ys (n+2) 0) (List.getD ys (n+3) 0) 2) (mpY (List.getD ys n 0) (List.getD ys (n+1) 0) (List.getD ys (n+2) 0) (List.getD ys (n+3) 0) 3) fun e f g h=>K a b c d e f g h
def HgB (m d:List Int) (K:SV→Mem→Prop) (ME:Reg→Mem) (M:Reg→Reg→Reg→Reg→Reg→Reg→Mem):Prop:=
 (d.length>255→∀s,K (.tup [.agg [.int .u64 (.lit 0),.int .u64 (.lit 0),.int .u64 (.lit 0),.int .u64 (.lit 0),.int .u64 (.lit 0),.int .u64 (.lit 0),.int .u64 (.lit 0),.int .u64 (.lit 0)],.iface 155 (.ptr 545 (.lit 0))]) (ME ⟨false,.cells [.val (.string s)]⟩))∧(d.length≤255→∀ws,ws=hfW (fun j=>mont (chN (expand m d 96) j)) 2→∀ys,ys=ws→
  ((0:Int)≤0∧(0:Int)<2)∧Mp4 ys 0 fun x0 x1 x2 x3 x4 x5 x6 x7=>((0:Int)≤1∧(1:Int)<2)∧Mp4 ys 4 fun x8 x9 x10 x11 x12 x13 x14 x15=>HgT x0 x1 x2 x3 x4 x5 x6 x7 x8 x9 x10 x11 x12 x13 x14 x15 K (M ⟨false,.ints .u64 ys⟩))
theorem vc_hg (msg dst:List Int) (l c l2 c2:Nat) (K:SV→Mem→Prop):(execF cxHg u9 Tryz.f22 64 [.slice 9 (.lit 0) (.sym l) (.sym c),.slice 17 (.lit 0) (.sym l2) (.sym c2)] (memL [(2,⟨true,.ints .u32 kL⟩),(9,⟨true,.ints .u8 msg⟩),(17,⟨true,.ints .u8 dst⟩)]) K)=
 ((0+l*1≤msg.length∧0+l2*1≤dst.length)∧(kL=kL∧List.length (List.take (l*1) (List.drop 0 msg))=l∧List.length (List.take (l2*1) (List.drop 0 dst))=l2∧l≤c∧l2≤c2∧Bytes (List.take (l*1) (List.drop 0 msg))∧Bytes (List.take (l2*1) (List.drop 0 dst))∧l≤65536∧l2≤65536∧(1:Int)≤2∧(2:Int)≤170)∧
  HgB (List.take (l*1) (List.drop 0 msg)) (List.take (l2*1) (List.drop 0 dst)) K (fun g=>memL [(2,⟨true,.ints .u32 kL⟩),(9,⟨true,.ints .u8 msg⟩),(17,⟨true,.ints .u8 dst⟩),(513,⟨false,.cells [.int .u64 (.lit 0),.int .u64 (.lit 0),.int .u64 (.lit 0),.int .u64 (.lit 0),.int .u64 (.lit 0),.int .u64 (.lit 0),.int .u64 (.lit 0),.int .u64 (.lit 0)]⟩),(545,g)]) (fun gy a q y j m=>memL [(2,⟨true,.ints .u32 kL⟩),(9,⟨true,.ints .u8 msg⟩),(17,⟨true,.ints .u8 dst⟩),(513,a),(545,gy),(633,q),(673,y),(689,j),(697,m)])):=by kernel_rfl
theorem vc_hgn (dst:List Int) (l2 c2:Nat) (K:SV→Mem→Prop):(execF cxHg u9 Tryz.f22 64 [.val (.slice none 0 0),.slice 9 (.lit 0) (.sym l2) (.sym c2)] (memL [(2,⟨true,.ints .u32 kL⟩),(9,⟨true,.ints .u8 dst⟩)]) K)=
 (0+l2*1≤dst.length∧(kL=kL∧List.length (List.take (l2*1) (List.drop 0 dst))=l2∧l2≤c2∧Bytes (List.take (l2*1) (List.drop 0 dst))∧l2≤65536∧(1:Int)≤2∧(2:Int)≤170)∧HgB [] (List.take (l2*1) (List.drop 0 dst)) K (fun g=>memL [(2,⟨true,.ints .u32 kL⟩),(9,⟨true,.ints .u8 dst⟩),(513,⟨false,.cells [.int .u64 (.lit 0),.int .u64 (.lit 0),.int .u64 (.lit 0),.int .u64 (.lit 0),.int .u64 (.lit 0),.int .u64 (.lit 0),.int .u64 (.lit 0),.int .u64 (.lit 0)]⟩),(545,g)]) (fun gy a q y j m=>memL [(2,⟨true,.ints .u32 kL⟩),(9,⟨true,.ints .u8 dst⟩),(513,a),(545,gy),(633,q),(673,y),(689,j),(697,m)])):=by kernel_rfl
theorem mpX_eq {A:Nat} (h:A<qN) (i:Nat):mpX (lm (mont A) 0) (lm (mont A) 1) (lm (mont A) 2) (lm (mont A) 3) i=lm (mont (mxN A)) i:=by
 unfold mpX
 rw[Vx (ws_q (mont_lt A)),mont_back,Nat.mod_eq_of_lt h]
theorem mpY_eq {A:Nat} (h:A<qN) (i:Nat):mpY (lm (mont A) 0) (lm (mont A) 1) (lm (mont A) 2) (lm (mont A) 3) i=lm (mont (myN A)) i:=by
 unfold mpY
 rw[Vx (ws_q (mont_lt A)),mont_back,Nat.mod_eq_of_lt h]
theorem spN_lt (ys:List Int) (j:Nat):spN ys j<qN:=by
 unfold spN
 exact Nat.mod_lt _ (by decide)
theorem td_full {xs:List Int} {n:Nat} (h:xs.length=n):List.take (n*1) (List.drop 0 xs)=xs:=by
 rw[List.drop_zero,Nat.mul_one]
 exact List.take_of_length_le (by omega)
theorem hfW_two (f:Nat→Nat):hfW f 2= [lm (f 0) 0,lm (f 0) 1,lm (f 0) 2,lm (f 0) 3,lm (f 1) 0,lm (f 1) 1,lm (f 1) 2,lm (f 1) 3]:=rfl
def sX (A B:Nat):Nat:=adX (mxN A) (myN A) (mxN B) (myN B)
def sY (A B:Nat):Nat:=adY (mxN A) (myN A) (mxN B) (myN B)
theorem hgT_walk {X0 Y0 X1 Y1:Nat} {x0 x1 x2 x3 x4 x5 x6 x7 x8 x9 x10 x11 x12 x13 x14 x15:Int} {K:SV→Mem→Prop} {M:Reg→Reg→Reg→Reg→Reg→Mem} (hM:∀v a b c d e,K v (memL [])→K v (M a b c d e)) (hx:El x0 x1 x2 x3 (mont X0)) (hy:El x4 x5 x6 x7 (mont Y0)) (kx:El x8 x9 x10 x11 (mont X1)) (ky:El x12 x13 x14 x15 (mont Y1)) (a:X0<qN) (b:Y0<qN) (c:X1<qN) (d:Y1<qN)
  (hP:K (.tup [.agg [U (lm (mont (adX X0 Y0 X1 Y1)) 0),U (lm (mont (adX X0 Y0 X1 Y1)) 1),U (lm (mont (adX X0 Y0 X1 Y1)) 2),U (lm (mont (adX X0 Y0 X1 Y1)) 3),U (lm (mont (adY X0 Y0 X1 Y1)) 0),U (lm (mont (adY X0 Y0 X1 Y1)) 1),U (lm (mont (adY X0 Y0 X1 Y1)) 2),U (lm (mont (adY X0 Y0 X1 Y1)) 3)],.val .nilIface]) (memL [])):HgT x0 x1 x2 x3 x4 x5 x6 x7 x8 x9 x10 x11 x12 x13 x14 x15 K M:=by
 refine ⟨X0,Y0,⟨hx,hy,a,b⟩,?_⟩
 intro j0 j1 j2 j3 j4 j5 j6 j7 j8 j9 j10 j11 hj
 refine ⟨X1,Y1,⟨kx,ky,c,d⟩,?_⟩
 intro k0 k1 k2 k3 k4 k5 k6 k7 k8 k9 k10 k11 hk
 refine ⟨_,_,⟨hk,hj⟩,?_⟩
 intro m0 m1 m2 m3 m4 m5 m6 m7 m8 m9 m10 m11 hm
 refine ⟨_,hm,?_⟩
 intro y0 y1 y2 y3 y4 y5 y6 y7 h1 h2
 obtain ⟨ex,ey⟩:=sum_eq a b c d
 rw[ex]at h1
 rw[ey]at h2
 rw[B4_eq,B4_eq]
 obtain ⟨rfl,rfl,rfl,rfl,_⟩:=h1
 obtain ⟨rfl,rfl,rfl,rfl,_⟩:=h2
 exact hM _ _ _ _ _ _ hP
theorem mp4_walk {ys:List Int} {n A:Nat} {K:Int→Int→Int→Int→Int→Int→Int→Int→Prop} (hA:A<qN) (h0:ys.getD n 0=lm (mont A) 0) (h1:ys.getD (n+1) 0=lm (mont A) 1) (h2:ys.getD (n+2) 0=lm (mont A) 2) (h3:ys.getD (n+3) 0=lm (mont A) 3) (hl:n+4≤ys.length)
  (hK:K (lm (mont (mxN A)) 0) (lm (mont (mxN A)) 1) (lm (mont (mxN A)) 2) (lm (mont (mxN A)) 3) (lm (mont (myN A)) 0) (lm (mont (myN A)) 1) (lm (mont (myN A)) 2) (lm (mont (myN A)) 3)):Mp4 ys n K:=by
 unfold Mp4
 rw[h0,h1,h2,h3]
 refine ⟨⟨hl,lm4_wd _,of_eq_true (Vlt (mont_lt A))⟩,?_⟩
 rw[B4_eq,mpX_eq hA,mpX_eq hA,mpX_eq hA,mpX_eq hA,B4_eq,mpY_eq hA,mpY_eq hA,mpY_eq hA,mpY_eq hA]
 exact hK
theorem hgB_walk {m d:List Int} {K:SV→Mem→Prop} {ME:Reg→Mem} {M:Reg→Reg→Reg→Reg→Reg→Reg→Mem} (hM:∀v a b c d e f,K v (memL [])→K v (M a b c d e f))
  (hE:d.length>255→∀s,K (.tup [.agg [.int .u64 (.lit 0),.int .u64 (.lit 0),.int .u64 (.lit 0),.int .u64 (.lit 0),.int .u64 (.lit 0),.int .u64 (.lit 0),.int .u64 (.lit 0),.int .u64 (.lit 0)],.iface 155 (.ptr 545 (.lit 0))]) (ME ⟨false,.cells [.val (.string s)]⟩)) (hP:d.length≤255→K (.tup [.agg [U (lm (mont (sX (spN (expand m d 96) 0) (spN (expand m d 96) 1))) 0),U (lm (mont (sX (spN (expand m d 96) 0) (spN (expand m d 96) 1))) 1),U (lm (mont (sX (spN (expand m d 96) 0) (spN (expand m d 96) 1))) 2),U (lm (mont (sX (spN (expand m d 96) 0) (spN (expand m d 96) 1))) 3),U (lm (mont (sY (spN (expand m d 96) 0) (spN (expand m d 96) 1))) 0),U (lm (mont (sY (spN (expand m d 96) 0) (spN (expand m d 96) 1))) 1),U (lm (mont (sY (spN (expand m d 96) 0) (spN (expand m d 96) 1))) 2),U (lm (mont (sY (spN (expand m d 96) 0) (spN (expand m d 96) 1))) 3)],.val .nilIface]) (memL [])):HgB m d K ME M:=by
 refine ⟨hE,fun hd=> ?_⟩
 have hP:=hP hd
 intro ws hw ys hy
 subst ys
 have e:∀j,mont (chN (expand m d 96) j)=mont (spN (expand m d 96) j):=fun j=>by
  unfold spN
  rw[mont_mod]
 rw[hfW_two,e,e]at hw
 have hX:=spN_lt (expand m d 96) 0
 have hY:=spN_lt (expand m d 96) 1
 generalize spN (expand m d 96) 0=A at *
 generalize spN (expand m d 96) 1=B at *
 subst ws
 refine ⟨⟨by decide,by decide⟩,mp4_walk hX rfl rfl rfl rfl (by simp) ⟨⟨by decide,by decide⟩,mp4_walk hY rfl rfl rfl rfl (by simp) ?_⟩⟩
 exact hgT_walk (fun v a b c d e h=>hM v _ a b c d e h) (El.of (mont_lt _)) (El.of (mont_lt _)) (El.of (mont_lt _)) (El.of (mont_lt _)) (mxN_lt _) (myN_lt _) (mxN_lt _) (myN_lt _) hP
def hgK (m d:List Int) (K:SV→Mem→Prop):Prop:=
 (d.length>255→∀s,K (.tup [.agg [.int .u64 (.lit 0),.int .u64 (.lit 0),.int .u64 (.lit 0),.int .u64 (.lit 0),.int .u64 (.lit 0),.int .u64 (.lit 0),.int .u64 (.lit 0),.int .u64 (.lit 0)],.iface 155 (.ptr 545 (.lit 0))]) (memL [(545,⟨false,.cells [.val (.string s)]⟩)]))∧(d.length≤255→K (.tup [.agg [U (lm (mont (sX (spN (expand m d 96) 0) (spN (expand m d 96) 1))) 0),U (lm (mont (sX (spN (expand m d 96) 0) (spN (expand m d 96) 1))) 1),U (lm (mont (sX (spN (expand m d 96) 0) (spN (expand m d 96) 1))) 2),U (lm (mont (sX (spN (expand m d 96) 0) (spN (expand m d 96) 1))) 3),U (lm (mont (sY (spN (expand m d 96) 0) (spN (expand m d 96) 1))) 0),U (lm (mont (sY (spN (expand m d 96) 0) (spN (expand m d 96) 1))) 1),U (lm (mont (sY (spN (expand m d 96) 0) (spN (expand m d 96) 1))) 2),U (lm (mont (sY (spN (expand m d 96) 0) (spN (expand m d 96) 1))) 3)],.val .nilIface]) (memL []))
def gHg:G0:=fun args l K=>
 match args,l with
 | [.slice 9 (.lit 0) (.sym n1) (.sym c1),.slice 17 (.lit 0) (.sym n2) (.sym c2)],[(2,⟨true,.ints .u32 ks⟩),(9,⟨true,.ints .u8 msg⟩),(17,⟨true,.ints .u8 dst⟩)]=>
  (ks=kL∧msg.length=n1∧dst.length=n2∧n1≤c1∧n2≤c2∧Bytes msg∧Bytes dst∧n1≤65536∧n2≤65536)∧hgK msg dst K
 | [.val (.slice none 0 0),.slice 9 (.lit 0) (.sym n2) (.sym c2)],[(2,⟨true,.ints .u32 ks⟩),(9,⟨true,.ints .u8 dst⟩)]=>
  (ks=kL∧dst.length=n2∧n2≤c2∧Bytes dst∧n2≤65536)∧hgK [] dst K
 | _,_=>False
theorem hgK_mono {m d:List Int} {K K':SV→Mem→Prop} (hk:∀v m,K v m→K' v m) (h:hgK m d K):hgK m d K':=⟨fun a s=>hk _ _ (h.1 a s),fun a=>hk _ _ (h.2 a)⟩
theorem hgK_live {m d:List Int} {K:SV→Mem→Prop} (h:hgK m d K):∃v m,K v m:=by
 by_cases h2:d.length>255
 ·exact ⟨_,_,h.1 h2 .empty⟩
 ·exact ⟨_,_,h.2 (by omega)⟩
theorem hg_good:Good gHg:=by
 constructor
 ·intro args l K K' hk h
  unfold gHg at h ⊢
  split at h
  ·exact ⟨h.1,hgK_mono hk h.2⟩
  ·exact ⟨h.1,hgK_mono hk h.2⟩
  ·exact h.elim
 ·intro args l K h
  unfold gHg at h
  split at h
  ·exact hgK_live h.2
  ·exact hgK_live h.2
  ·exact h.elim
theorem hg_ok (args:List SV) (l:List (Nat×Reg)) (K:SV→Mem→Prop) (hup:KUp K) (h:gHg args l K):∃U,execF cxHg U Tryz.f22 64 args (memL l) K:=by
 unfold gHg at h
 split at h
 ·rename_i n1 c1 n2 c2 ks msg dst
  obtain ⟨⟨rfl,h1,h2,h3,h4,hb,hd,h5,h6⟩,ha,hk⟩:=h
  refine ⟨u9,?_⟩
  rw[vc_hg,td_full h1,td_full h2]
  refine ⟨⟨by omega,by omega⟩,⟨rfl,h1,h2,h3,h4,hb,hd,h5,by omega,by decide,by decide⟩,hgB_walk (fun v a b c d e f h=>hup.le (memL_sub [2,9,17,513,545,633,673,689,697] rfl (by decide) (by
   intro x hx
   simp at hx)) h) (fun h s=>hup.le (memL_sub [2,9,17,513,545] rfl (by decide) (by
   intro x hx
   simp only[List.mem_cons,List.not_mem_nil,or_false]at hx ⊢
   simp[hx])) (ha h s)) hk⟩
 ·rename_i n2 c2 ks dst
  obtain ⟨⟨rfl,h2,h4,hd,h6⟩,ha,hk⟩:=h
  refine ⟨u9,?_⟩
  rw[vc_hgn,td_full h2]
  refine ⟨by omega,⟨rfl,h2,h4,hd,by omega,by decide,by decide⟩,hgB_walk (fun v a b c d e f h=>hup.le (memL_sub [2,9,513,545,633,673,689,697] rfl (by decide) (by
   intro x hx
   simp at hx)) h) (fun h s=>hup.le (memL_sub [2,9,513,545] rfl (by decide) (by
   intro x hx
   simp only[List.mem_cons,List.not_mem_nil,or_false]at hx ⊢
   simp[hx])) (ha h s)) hk⟩
 ·exact h.elim
def kHg:Ef Tryz.prog:=mkE mixed 22 Tryz.func22 (by decide) (by kernel_rfl) [1] [.sl 1 true,.sl 1 true] gHg hg_good hg_ok
def cxEr:Cx Tryz.prog:= { rds:= [],efs:= [cFH],eqs:= [] }
def erK (z:SV) (r:Nat) (K:SV→Mem→Prop):Prop:=∀s,K (.tup [z,.iface 155 (.ptr r (.lit 0))]) (memL [(r,⟨false,.cells [.val (.string s)]⟩)])
def gEr (z:SV) (r:Nat):G0:=fun args l K=>
 match args,l with
 | [.slice 9 (.lit 0) (.sym n1) (.sym c1),.slice 17 (.lit 0) (.sym n2) (.sym c2)],[(2,⟨true,.ints .u32 ks⟩),(9,⟨true,.ints .u8 msg⟩),(17,⟨true,.ints .u8 dst⟩)]=>
  (ks=kL∧msg.length=n1∧dst.length=n2∧n1≤c1∧n2≤c2∧Bytes msg∧Bytes dst∧n1≤65536∧n2≤65536∧255<n2)∧erK z r K
 | [.val (.slice none 0 0),.slice 9 (.lit 0) (.sym n2) (.sym c2)],[(2,⟨true,.ints .u32 ks⟩),(9,⟨true,.ints .u8 dst⟩)]=>
  (ks=kL∧dst.length=n2∧n2≤c2∧Bytes dst∧n2≤65536∧255<n2)∧erK z r K
 | _,_=>False
theorem er_good (z:SV) (r:Nat):Good (gEr z r):=by
 constructor
 ·intro args l K K' hk h
  unfold gEr at h ⊢
  split at h
  ·exact ⟨h.1,fun s=>hk _ _ (h.2 s)⟩
  ·exact ⟨h.1,fun s=>hk _ _ (h.2 s)⟩
  ·exact h.elim
 ·intro args l K h
  unfold gEr at h
  split at h
  ·exact ⟨_,_,h.2 .empty⟩
  ·exact ⟨_,_,h.2 .empty⟩
  ·exact h.elim
theorem vc_en1 (msg dst:List Int) (l c l2 c2:Nat) (K:SV→Mem→Prop):(execF cxEr u9 Tryz.f25 64 [.slice 9 (.lit 0) (.sym l) (.sym c),.slice 17 (.lit 0) (.sym l2) (.sym c2)] (memL [(2,⟨true,.ints .u32 kL⟩),(9,⟨true,.ints .u8
 msg⟩),(17,⟨true,.ints .u8 dst⟩)]) K)=((0+l*1≤msg.length∧0+l2*1≤dst.length)∧(kL=kL∧List.length (List.take (l*1) (List.drop 0 msg))=l∧List.length (List.take (l2*1) (List.drop 0 dst))=l2∧l≤c∧l2≤c2∧
 Bytes (List.take (l*1) (List.drop 0 msg))∧Bytes (List.take (l2*1) (List.drop 0 dst))∧l≤65536∧l2≤65536∧(1:Int)≤1∧(1:Int)≤170)∧(List.length (List.take (l2*1) (List.drop 0 dst))>255→∀b:ByteArray,K (.tup
 [.agg [.int .u64 (.lit 0),.int .u64 (.lit 0),.int .u64 (.lit 0),.int .u64 (.lit 0),.int .u64 (.lit 0),.int .u64 (.lit 0),.int .u64 (.lit 0),.int .u64 (.lit 0)],.iface 155 (.ptr 553 (.lit 0))]) (memL [(2,⟨true,.ints .u32 kL⟩),(9,
 ⟨true,.ints .u8 msg⟩),(17,⟨true,.ints .u8 dst⟩),(513,⟨false,.cells [.int .u64 (.lit 0),.int .u64 (.lit 0),.int .u64 (.lit 0),.int .u64 (.lit 0),.int .u64 (.lit 0),.int .u64 (.lit 0),.int .u64 (.lit 0),.int .u64 (.lit 0)]⟩),
 (529,⟨false,.cells [.int .u64 (.lit 0),.int .u64 (.lit 0),.int .u64 (.lit 0),.int .u64 (.lit 0),.int .u64 (.lit 0),.int .u64 (.lit 0),.int .u64 (.lit 0),.int .u64 (.lit 0)]⟩),(553,⟨false,.cells [.val (.string b)]⟩)]))∧
 (List.length (List.take (l2*1) (List.drop 0 dst))≤255→∀a:List Int,a=hfW (fun ( d:Nat )=>mont (chN (expand (List.take (l*1) (List.drop 0 msg)) (List.take (l2*1) (List.drop 0 dst)) 48) d)) 1→∀e:List Int,e=a→((0
 :Int)≤0∧(0:Int)<1)∧False)):=by kernel_rfl
theorem vc_en1n (dst:List Int) (l2 c2:Nat) (K:SV→Mem→Prop):(execF cxEr u9 Tryz.f25 64 [.val (.slice none 0 0),.slice 9 (.lit 0) (.sym l2) (.sym c2)] (memL [(2,⟨true,.ints .u32 kL⟩),(9,⟨true,.ints .u8 dst⟩)]) K)=(0+l2 *
 1≤dst.length∧(kL=kL∧List.length (List.take (l2*1) (List.drop 0 dst))=l2∧l2≤c2∧Bytes (List.take (l2*1) (List.drop 0 dst))∧l2≤65536∧(1:Int)≤1∧(1:Int)≤170)∧(List.length (List.take (l2*1) (List.drop 0
 dst))>255→∀b:ByteArray,K (.tup [.agg [.int .u64 (.lit 0),.int .u64 (.lit 0),.int .u64 (.lit 0),.int .u64 (.lit 0),.int .u64 (.lit 0),.int .u64 (.lit 0),.int .u64 (.lit 0),.int .u64 (.lit 0)],.iface 155 (.ptr 553 (.lit 0))])
 (memL [(2,⟨true,.ints .u32 kL⟩),(9,⟨true,.ints .u8 dst⟩),(513,⟨false,.cells [.int .u64 (.lit 0),.int .u64 (.lit 0),.int .u64 (.lit 0),.int .u64 (.lit 0),.int .u64 (.lit 0),.int .u64 (.lit 0),.int .u64 (.lit 0),.int .u64
 (.lit 0)]⟩),(529,⟨false,.cells [.int .u64 (.lit 0),.int .u64 (.lit 0),.int .u64 (.lit 0),.int .u64 (.lit 0),.int .u64 (.lit 0),.int .u64 (.lit 0),.int .u64 (.lit 0),.int .u64 (.lit 0)]⟩),(553,⟨false,.cells [.val (.string
 b)]⟩)]))∧(List.length (List.take (l2*1) (List.drop 0 dst))≤255→∀a:List Int,a=hfW (fun ( c:Nat )=>mont (chN (expand [] (List.take (l2*1) (List.drop 0 dst)) 48) c)) 1→∀d:List Int,d=a→((0:Int)≤0∧(0:Int) <
 1)∧False)):=by kernel_rfl
theorem en1_ok (args:List SV) (l:List (Nat×Reg)) (K:SV→Mem→Prop) (hup:KUp K) (h:gEr (.agg [.int .u64 (.lit 0),.int .u64 (.lit 0),.int .u64 (.lit 0),.int .u64 (.lit 0),.int .u64 (.lit 0),.int .u64 (.lit 0),.int .u64 (.lit 0),.int .u64 (.lit 0)]) 553 args l K):∃U,execF cxEr U Tryz.f25 64 args (memL l) K:=by
 unfold gEr at h
 split at h
 ·rename_i n1 c1 n2 c2 ks msg dst
  obtain ⟨⟨rfl,h1,h2,h3,h4,hb,hd,h5,h6,h7⟩,hk⟩:=h
  refine ⟨u9,?_⟩
  rw[vc_en1,td_full h1,td_full h2]
  exact ⟨⟨by omega,by omega⟩,⟨rfl,h1,h2,h3,h4,hb,hd,h5,by omega,by decide,by decide⟩,fun h s=>hup.le (memL_sub [2,9,17,513,529,553] rfl (by decide) (by
   intro x hx
   simp only[List.mem_cons,List.not_mem_nil,or_false]at hx ⊢
   simp[hx])) (hk s),fun h=>absurd h (by omega)⟩
 ·rename_i n2 c2 ks dst
  obtain ⟨⟨rfl,h2,h4,hd,h6,h7⟩,hk⟩:=h
  refine ⟨u9,?_⟩
  rw[vc_en1n,td_full h2]
  exact ⟨by omega,⟨rfl,h2,h4,hd,by omega,by decide,by decide⟩,fun h s=>hup.le (memL_sub [2,9,513,529,553] rfl (by decide) (by
   intro x hx
   simp only[List.mem_cons,List.not_mem_nil,or_false]at hx ⊢
   simp[hx])) (hk s),fun h=>absurd h (by omega)⟩
 ·exact h.elim
def kEn1:Ef Tryz.prog:=mkE mixed 25 Tryz.func25 (by decide) (by kernel_rfl) [1] [.sl 1 true,.sl 1 true] (gEr (.agg [.int .u64 (.lit 0),.int .u64 (.lit 0),.int .u64 (.lit 0),.int .u64 (.lit 0),.int .u64 (.lit 0),.int .u64 (.lit 0),.int .u64 (.lit 0),.int .u64 (.lit 0)]) 553) (er_good _ _) en1_ok
theorem vc_hg2 (msg dst:List Int) (l c l2 c2:Nat) (K:SV→Mem→Prop):(execF cxEr u9 Tryz.f26 64 [.slice 9 (.lit 0) (.sym l) (.sym c),.slice 17 (.lit 0) (.sym l2) (.sym c2)] (memL [(2,⟨true,.ints .u32 kL⟩),(9,⟨true,.ints .u8
 msg⟩),(17,⟨true,.ints .u8 dst⟩)]) K)=((0+l*1≤msg.length∧0+l2*1≤dst.length)∧(kL=kL∧List.length (List.take (l*1) (List.drop 0 msg))=l∧List.length (List.take (l2*1) (List.drop 0 dst))=l2∧l≤c∧l2≤c2∧
 Bytes (List.take (l*1) (List.drop 0 msg))∧Bytes (List.take (l2*1) (List.drop 0 dst))∧l≤65536∧l2≤65536∧(1:Int)≤4∧(4:Int)≤170)∧(List.length (List.take (l2*1) (List.drop 0 dst))>255→∀b:ByteArray,K (.tup
 [.agg [.int .u64 (.lit 0),.int .u64 (.lit 0),.int .u64 (.lit 0),.int .u64 (.lit 0),.int .u64 (.lit 0),.int .u64 (.lit 0),.int .u64 (.lit 0),.int .u64 (.lit 0),.int .u64 (.lit 0),.int .u64 (.lit 0),.int .u64 (.lit 0),.int .u64
 (.lit 0),.int .u64 (.lit 0),.int .u64 (.lit 0),.int .u64 (.lit 0),.int .u64 (.lit 0)],.iface 155 (.ptr 545 (.lit 0))]) (memL [(2,⟨true,.ints .u32 kL⟩),(9,⟨true,.ints .u8 msg⟩),(17,⟨true,.ints .u8 dst⟩),(513,⟨false,.cells
 [.int .u64 (.lit 0),.int .u64 (.lit 0),.int .u64 (.lit 0),.int .u64 (.lit 0),.int .u64 (.lit 0),.int .u64 (.lit 0),.int .u64 (.lit 0),.int .u64 (.lit 0),.int .u64 (.lit 0),.int .u64 (.lit 0),.int .u64 (.lit 0),.int .u64 (.lit
 0),.int .u64 (.lit 0),.int .u64 (.lit 0),.int .u64 (.lit 0),.int .u64 (.lit 0)]⟩),(545,⟨false,.cells [.val (.string b)]⟩)]))∧(List.length (List.take (l2*1) (List.drop 0 dst))≤255→∀a:List Int,a=hfW (fun ( d:Nat )=>
 mont (chN (expand (List.take (l*1) (List.drop 0 msg)) (List.take (l2*1) (List.drop 0 dst)) 192) d)) 4→∀e:List Int,e=a→False)):=by kernel_rfl
theorem vc_hg2n (dst:List Int) (l2 c2:Nat) (K:SV→Mem→Prop):(execF cxEr u9 Tryz.f26 64 [.val (.slice none 0 0),.slice 9 (.lit 0) (.sym l2) (.sym c2)] (memL [(2,⟨true,.ints .u32 kL⟩),(9,⟨true,.ints .u8 dst⟩)]) K)=(0+l2 *
 1≤dst.length∧(kL=kL∧List.length (List.take (l2*1) (List.drop 0 dst))=l2∧l2≤c2∧Bytes (List.take (l2*1) (List.drop 0 dst))∧l2≤65536∧(1:Int)≤4∧(4:Int)≤170)∧(List.length (List.take (l2*1) (List.drop 0
 dst))>255→∀b:ByteArray,K (.tup [.agg [.int .u64 (.lit 0),.int .u64 (.lit 0),.int .u64 (.lit 0),.int .u64 (.lit 0),.int .u64 (.lit 0),.int .u64 (.lit 0),.int .u64 (.lit 0),.int .u64 (.lit 0),.int .u64 (.lit 0),.int .u64
 (.lit 0),.int .u64 (.lit 0),.int .u64 (.lit 0),.int .u64 (.lit 0),.int .u64 (.lit 0),.int .u64 (.lit 0),.int .u64 (.lit 0)],.iface 155 (.ptr 545 (.lit 0))]) (memL [(2,⟨true,.ints .u32 kL⟩),(9,⟨true,.ints .u8 dst⟩),(513,
 ⟨false,.cells [.int .u64 (.lit 0),.int .u64 (.lit 0),.int .u64 (.lit 0),.int .u64 (.lit 0),.int .u64 (.lit 0),.int .u64 (.lit 0),.int .u64 (.lit 0),.int .u64 (.lit 0),.int .u64 (.lit 0),.int .u64 (.lit 0),.int .u64 (.lit 0),
 .int .u64 (.lit 0),.int .u64 (.lit 0),.int .u64 (.lit 0),.int .u64 (.lit 0),.int .u64 (.lit 0)]⟩),(545,⟨false,.cells [.val (.string b)]⟩)]))∧(List.length (List.take (l2*1) (List.drop 0 dst))≤255→∀a:List Int,a=hfW (fun
 ( c:Nat )=>mont (chN (expand [] (List.take (l2*1) (List.drop 0 dst)) 192) c)) 4→∀d:List Int,d=a→False)):=by kernel_rfl
theorem hg2_ok (args:List SV) (l:List (Nat×Reg)) (K:SV→Mem→Prop) (hup:KUp K) (h:gEr (.agg [.int .u64 (.lit 0),.int .u64 (.lit 0),.int .u64 (.lit 0),.int .u64 (.lit 0),.int .u64 (.lit 0),.int .u64 (.lit 0),.int .u64 (.lit 0),.int .u64 (.lit 0),.int .u64 (.lit 0),.int .u64 (.lit 0),.int .u64 (.lit 0),.int .u64 (.lit 0),.int .u64 (.lit 0),.int .u64 (.lit 0),.int .u64 (.lit 0),.int .u64 (.lit 0)]) 545 args l K):∃U,execF cxEr U Tryz.f26 64 args (memL l) K:=by
 unfold gEr at h
 split at h
 ·rename_i n1 c1 n2 c2 ks msg dst
  obtain ⟨⟨rfl,h1,h2,h3,h4,hb,hd,h5,h6,h7⟩,hk⟩:=h
  refine ⟨u9,?_⟩
  rw[vc_hg2,td_full h1,td_full h2]
  exact ⟨⟨by omega,by omega⟩,⟨rfl,h1,h2,h3,h4,hb,hd,h5,by omega,by decide,by decide⟩,fun h s=>hup.le (memL_sub [2,9,17,513,545] rfl (by decide) (by
   intro x hx
   simp only[List.mem_cons,List.not_mem_nil,or_false]at hx ⊢
   simp[hx])) (hk s),fun h=>absurd h (by omega)⟩
 ·rename_i n2 c2 ks dst
  obtain ⟨⟨rfl,h2,h4,hd,h6,h7⟩,hk⟩:=h
  refine ⟨u9,?_⟩
  rw[vc_hg2n,td_full h2]
  exact ⟨by omega,⟨rfl,h2,h4,hd,by omega,by decide,by decide⟩,fun h s=>hup.le (memL_sub [2,9,513,545] rfl (by decide) (by
   intro x hx
   simp only[List.mem_cons,List.not_mem_nil,or_false]at hx ⊢
   simp[hx])) (hk s),fun h=>absurd h (by omega)⟩
 ·exact h.elim
def kHg2:Ef Tryz.prog:=mkE mixed 26 Tryz.func26 (by decide) (by kernel_rfl) [1] [.sl 1 true,.sl 1 true] (gEr (.agg [.int .u64 (.lit 0),.int .u64 (.lit 0),.int .u64 (.lit 0),.int .u64 (.lit 0),.int .u64 (.lit 0),.int .u64 (.lit 0),.int .u64 (.lit 0),.int .u64 (.lit 0),.int .u64 (.lit 0),.int .u64 (.lit 0),.int .u64 (.lit 0),.int .u64 (.lit 0),.int .u64 (.lit 0),.int .u64 (.lit 0),.int .u64 (.lit 0),.int .u64 (.lit 0)]) 545) (er_good _ _) hg2_ok
theorem vc_en2 (msg dst:List Int) (l c l2 c2:Nat) (K:SV→Mem→Prop):(execF cxEr u9 Tryz.f27 64 [.slice 9 (.lit 0) (.sym l) (.sym c),.slice 17 (.lit 0) (.sym l2) (.sym c2)] (memL [(2,⟨true,.ints .u32 kL⟩),(9,⟨true,.ints .u8
 msg⟩),(17,⟨true,.ints .u8 dst⟩)]) K)=((0+l*1≤msg.length∧0+l2*1≤dst.length)∧(kL=kL∧List.length (List.take (l*1) (List.drop 0 msg))=l∧List.length (List.take (l2*1) (List.drop 0 dst))=l2∧l≤c∧l2≤c2∧
 Bytes (List.take (l*1) (List.drop 0 msg))∧Bytes (List.take (l2*1) (List.drop 0 dst))∧l≤65536∧l2≤65536∧(1:Int)≤2∧(2:Int)≤170)∧(List.length (List.take (l2*1) (List.drop 0 dst))>255→∀d:ByteArray,K (.tup
 [.agg [.int .u64 (.lit 0),.int .u64 (.lit 0),.int .u64 (.lit 0),.int .u64 (.lit 0),.int .u64 (.lit 0),.int .u64 (.lit 0),.int .u64 (.lit 0),.int .u64 (.lit 0),.int .u64 (.lit 0),.int .u64 (.lit 0),.int .u64 (.lit 0),.int .u64
 (.lit 0),.int .u64 (.lit 0),.int .u64 (.lit 0),.int .u64 (.lit 0),.int .u64 (.lit 0)],.iface 155 (.ptr 553 (.lit 0))]) (memL [(2,⟨true,.ints .u32 kL⟩),(9,⟨true,.ints .u8 msg⟩),(17,⟨true,.ints .u8 dst⟩),(513,⟨false,.cells
 [.int .u64 (.lit 0),.int .u64 (.lit 0),.int .u64 (.lit 0),.int .u64 (.lit 0),.int .u64 (.lit 0),.int .u64 (.lit 0),.int .u64 (.lit 0),.int .u64 (.lit 0),.int .u64 (.lit 0),.int .u64 (.lit 0),.int .u64 (.lit 0),.int .u64 (.lit
 0),.int .u64 (.lit 0),.int .u64 (.lit 0),.int .u64 (.lit 0),.int .u64 (.lit 0)]⟩),(529,⟨false,.cells [.int .u64 (.lit 0),.int .u64 (.lit 0),.int .u64 (.lit 0),.int .u64 (.lit 0),.int .u64 (.lit 0),.int .u64 (.lit 0),.int .u64
 (.lit 0),.int .u64 (.lit 0),.int .u64 (.lit 0),.int .u64 (.lit 0),.int .u64 (.lit 0),.int .u64 (.lit 0),.int .u64 (.lit 0),.int .u64 (.lit 0),.int .u64 (.lit 0),.int .u64 (.lit 0)]⟩),(553,⟨false,.cells [.val (.string d)]⟩)]))∧
 (List.length (List.take (l2*1) (List.drop 0 dst))≤255→∀b:List Int,b=hfW (fun ( e:Nat )=>mont (chN (expand (List.take (l*1) (List.drop 0 msg)) (List.take (l2*1) (List.drop 0 dst)) 96) e)) 2→∀a:List Int,a=b→((0
 :Int)≤0∧(0:Int)<2)∧(4≤a.length∧B4 (List.getD a 0 0) (List.getD a 1 0) (List.getD a 2 0) (List.getD a 3 0) fun f g h i=>((0:Int)≤1∧(1:Int)<2)∧(8≤a.length∧B4 (List.getD a 4 0) (List.getD a 5 0) (List.getD a 6
 0) (List.getD a 7 0) fun j k m n=>False)))):=by kernel_rfl
theorem vc_en2n (dst:List Int) (l2 c2:Nat) (K:SV→Mem→Prop):(execF cxEr u9 Tryz.f27 64 [.val (.slice none 0 0),.slice 9 (.lit 0) (.sym l2) (.sym c2)] (memL [(2,⟨true,.ints .u32 kL⟩),(9,⟨true,.ints .u8 dst⟩)]) K)=(0+l2 *
 1≤dst.length∧(kL=kL∧List.length (List.take (l2*1) (List.drop 0 dst))=l2∧l2≤c2∧Bytes (List.take (l2*1) (List.drop 0 dst))∧l2≤65536∧(1:Int)≤2∧(2:Int)≤170)∧(List.length (List.take (l2*1) (List.drop 0
 dst))>255→∀c:ByteArray,K (.tup [.agg [.int .u64 (.lit 0),.int .u64 (.lit 0),.int .u64 (.lit 0),.int .u64 (.lit 0),.int .u64 (.lit 0),.int .u64 (.lit 0),.int .u64 (.lit 0),.int .u64 (.lit 0),.int .u64 (.lit 0),.int .u64
 (.lit 0),.int .u64 (.lit 0),.int .u64 (.lit 0),.int .u64 (.lit 0),.int .u64 (.lit 0),.int .u64 (.lit 0),.int .u64 (.lit 0)],.iface 155 (.ptr 553 (.lit 0))]) (memL [(2,⟨true,.ints .u32 kL⟩),(9,⟨true,.ints .u8 dst⟩),(513,
 ⟨false,.cells [.int .u64 (.lit 0),.int .u64 (.lit 0),.int .u64 (.lit 0),.int .u64 (.lit 0),.int .u64 (.lit 0),.int .u64 (.lit 0),.int .u64 (.lit 0),.int .u64 (.lit 0),.int .u64 (.lit 0),.int .u64 (.lit 0),.int .u64 (.lit 0),
 .int .u64 (.lit 0),.int .u64 (.lit 0),.int .u64 (.lit 0),.int .u64 (.lit 0),.int .u64 (.lit 0)]⟩),(529,⟨false,.cells [.int .u64 (.lit 0),.int .u64 (.lit 0),.int .u64 (.lit 0),.int .u64 (.lit 0),.int .u64 (.lit 0),.int .u64
 (.lit 0),.int .u64 (.lit 0),.int .u64 (.lit 0),.int .u64 (.lit 0),.int .u64 (.lit 0),.int .u64 (.lit 0),.int .u64 (.lit 0),.int .u64 (.lit 0),.int .u64 (.lit 0),.int .u64 (.lit 0),.int .u64 (.lit 0)]⟩),(553,⟨false,.cells [.val
 (.string c)]⟩)]))∧(List.length (List.take (l2*1) (List.drop 0 dst))≤255→∀b:List Int,b=hfW (fun ( d:Nat )=>mont (chN (expand [] (List.take (l2*1) (List.drop 0 dst)) 96) d)) 2→∀a:List Int,a=b→((0:Int)≤0∧(0
 :Int)<2)∧(4≤a.length∧B4 (List.getD a 0 0) (List.getD a 1 0) (List.getD a 2 0) (List.getD a 3 0) fun e f g h=>((0:Int)≤1∧(1:Int)<2)∧(8≤a.length∧B4 (List.getD a 4 0) (List.getD a 5 0) (List.getD a 6 0) (List.getD a
 7 0) fun i j k l=>False)))):=by kernel_rfl
theorem en2_ok (args:List SV) (l:List (Nat×Reg)) (K:SV→Mem→Prop) (hup:KUp K) (h:gEr (.agg [.int .u64 (.lit 0),.int .u64 (.lit 0),.int .u64 (.lit 0),.int .u64 (.lit 0),.int .u64 (.lit 0),.int .u64 (.lit 0),.int .u64 (.lit 0),.int .u64 (.lit 0),.int .u64 (.lit 0),.int .u64 (.lit 0),.int .u64 (.lit 0),.int .u64 (.lit 0),.int .u64 (.lit 0),.int .u64 (.lit 0),.int .u64 (.lit 0),.int .u64 (.lit 0)]) 553 args l K):∃U,execF cxEr U Tryz.f27 64 args (memL l) K:=by
 unfold gEr at h
 split at h
 ·rename_i n1 c1 n2 c2 ks msg dst
  obtain ⟨⟨rfl,h1,h2,h3,h4,hb,hd,h5,h6,h7⟩,hk⟩:=h
  refine ⟨u9,?_⟩
  rw[vc_en2,td_full h1,td_full h2]
  exact ⟨⟨by omega,by omega⟩,⟨rfl,h1,h2,h3,h4,hb,hd,h5,by omega,by decide,by decide⟩,fun h s=>hup.le (memL_sub [2,9,17,513,529,553] rfl (by decide) (by
   intro x hx
   simp only[List.mem_cons,List.not_mem_nil,or_false]at hx ⊢
   simp[hx])) (hk s),fun h=>absurd h (by omega)⟩
 ·rename_i n2 c2 ks dst
  obtain ⟨⟨rfl,h2,h4,hd,h6,h7⟩,hk⟩:=h
  refine ⟨u9,?_⟩
  rw[vc_en2n,td_full h2]
  exact ⟨by omega,⟨rfl,h2,h4,hd,by omega,by decide,by decide⟩,fun h s=>hup.le (memL_sub [2,9,513,529,553] rfl (by decide) (by
   intro x hx
   simp only[List.mem_cons,List.not_mem_nil,or_false]at hx ⊢
   simp[hx])) (hk s),fun h=>absurd h (by omega)⟩
 ·exact h.elim
def kEn2:Ef Tryz.prog:=mkE mixed 27 Tryz.func27 (by decide) (by kernel_rfl) [1] [.sl 1 true,.sl 1 true] (gEr (.agg [.int .u64 (.lit 0),.int .u64 (.lit 0),.int .u64 (.lit 0),.int .u64 (.lit 0),.int .u64 (.lit 0),.int .u64 (.lit 0),.int .u64 (.lit 0),.int .u64 (.lit 0),.int .u64 (.lit 0),.int .u64 (.lit 0),.int .u64 (.lit 0),.int .u64 (.lit 0),.int .u64 (.lit 0),.int .u64 (.lit 0),.int .u64 (.lit 0),.int .u64 (.lit 0)]) 553) (er_good _ _) en2_ok
def cxI:Cx Tryz.prog:= { rds:= [cTold],efs:= [cClone,kHg,kEn1,kHg2,kEn2],eqs:= [] }
theorem vc_ih1 (msg dst:List Int) (l c l2 c2:Nat) (P:SV→Prop):(execF cxI u9 Tryz.f9 64 [.slice 9 (.lit 0) (.sym l) (.sym c),.slice 17 (.lit 0)
 (.sym l2) (.sym c2)] (memL [(2,⟨true,.ints .u32 kL⟩),(9,⟨true,.ints .u8 msg⟩),(17,⟨true,.ints .u8 dst⟩)]) fun v _=>P v)=(((0+(l*1))≤
 (List.length msg))∧((((List.length (List.take (l*1) (List.drop 0 msg)))=l)∧(l≤549755813888))∧(∀(ys0:(List Int)),(∀(cap1:Nat),((Rw ys0
 (List.take (l*1) (List.drop 0 msg)) l cap1)→(∀(ys2:(List Int)),((ys2=ys0)→(((0+(l2*1))≤(List.length dst))∧((((List.length (List.take
 (l2*1) (List.drop 0 dst)))=l2)∧(l2≤549755813888))∧(∀(ys3:(List Int)),(∀(cap4:Nat),((Rw ys3 (List.take (l2*1) (List.drop 0 dst)) l2 cap4)
 →(∀(ys5:(List Int)),((ys5=ys3)→((((0+(l*1))≤(List.length ys2))∧((0+(l2*1))≤(List.length ys5)))∧(((kL=kL)∧(((List.length (List.take
 (l*1) (List.drop 0 ys2)))=l)∧(((List.length (List.take (l2*1) (List.drop 0 ys5)))=l2)∧((l≤cap1)∧((l2≤cap4)∧((Bytes (List.take (l*1)
 (List.drop 0 ys2)))∧((Bytes (List.take (l2*1) (List.drop 0 ys5)))∧((l≤65536)∧(l2≤65536)))))))))∧((((List.length (List.take (l2*1) (List.drop 0 ys5)))>255)
 →(∀(s6:ByteArray),(P (SV.tup [(SV.agg [(SV.int IntKind.u64 (A.lit 0)),(SV.int IntKind.u64 (A.lit 0)),(SV.int IntKind.u64 (A.lit 0)),(SV.int IntKind.u64
 (A.lit 0)),(SV.int IntKind.u64 (A.lit 0)),(SV.int IntKind.u64 (A.lit 0)),(SV.int IntKind.u64 (A.lit 0)),(SV.int IntKind.u64 (A.lit 0))]),(SV.bool
 (B.lit Bool.false))]))))∧(((List.length (List.take (l2*1) (List.drop 0 ys5)))≤255)→(L4 (mont (sX (spN (expand (List.take (l*1) (List.drop 0 ys2))
 (List.take (l2*1) (List.drop 0 ys5)) 96) 0) (spN (expand (List.take (l*1) (List.drop 0 ys2)) (List.take (l2*1) (List.drop 0 ys5)) 96) 1))) fun x7 x8 x9 x10=>L4
 (mont (sY (spN (expand (List.take (l*1) (List.drop 0 ys2)) (List.take (l2*1) (List.drop 0 ys5)) 96) 0) (spN (expand (List.take (l*1) (List.drop 0 ys2))
 (List.take (l2*1) (List.drop 0 ys5)) 96) 1))) fun x11 x12 x13 x14=>(((W4 x7 x8 x9 x10)∧(W4 x11 x12 x13 x14))∧(L4 (mmul (N4 x7 x8 x9 x10) 1) fun x15 x16 x17 x18=>L4
 (mmul (N4 x11 x12 x13 x14) 1) fun x19 x20 x21 x22=>(P (SV.tup [(SV.agg [(U x15),(U x16),(U x17),(U x18),(U x19),(U x20),(U x21),(U x22)]),(SV.bool
 (B.lit Bool.true))]))))))))))))))))))))))):=by kernel_rfl
theorem vc_ih1n (dst:List Int) (l2 c2:Nat) (P:SV→Prop):(execF cxI u9 Tryz.f9 64 [.val (.slice none 0 0),.slice 9 (.lit 0) (.sym l2) (.sym c2)]
 (memL [(2,⟨true,.ints .u32 kL⟩),(9,⟨true,.ints .u8 dst⟩)]) fun v _=>P v)=(((0+(l2*1))≤(List.length dst))∧((((List.length (List.take (l2*1)
 (List.drop 0 dst)))=l2)∧(l2≤549755813888))∧(∀(ys0:(List Int)),(∀(cap1:Nat),((Rw ys0 (List.take (l2*1) (List.drop 0 dst)) l2 cap1)→
 (∀(ys2:(List Int)),((ys2=ys0)→(((0+(l2*1))≤(List.length ys2))∧(((kL=kL)∧(((List.length (List.take (l2*1) (List.drop 0 ys2)))=l2)
 ∧((l2≤cap1)∧((Bytes (List.take (l2*1) (List.drop 0 ys2)))∧(l2≤65536)))))∧((((List.length (List.take (l2*1) (List.drop 0 ys2)))>255)→
 (∀(s3:ByteArray),(P (SV.tup [(SV.agg [(SV.int IntKind.u64 (A.lit 0)),(SV.int IntKind.u64 (A.lit 0)),(SV.int IntKind.u64 (A.lit 0)),(SV.int IntKind.u64
 (A.lit 0)),(SV.int IntKind.u64 (A.lit 0)),(SV.int IntKind.u64 (A.lit 0)),(SV.int IntKind.u64 (A.lit 0)),(SV.int IntKind.u64 (A.lit 0))]),(SV.bool
 (B.lit Bool.false))]))))∧(((List.length (List.take (l2*1) (List.drop 0 ys2)))≤255)→(L4 (mont (sX (spN (expand [] (List.take (l2*1) (List.drop 0 ys2)) 96) 0)
 (spN (expand [] (List.take (l2*1) (List.drop 0 ys2)) 96) 1))) fun x4 x5 x6 x7=>L4 (mont (sY (spN (expand [] (List.take (l2*1) (List.drop 0 ys2)) 96) 0)
 (spN (expand [] (List.take (l2*1) (List.drop 0 ys2)) 96) 1))) fun x8 x9 x10 x11=>(((W4 x4 x5 x6 x7)∧(W4 x8 x9 x10 x11))∧(L4 (mmul (N4 x4 x5 x6 x7) 1) fun x12 x13 x14 x15=>L4
 (mmul (N4 x8 x9 x10 x11) 1) fun x16 x17 x18 x19=>(P (SV.tup [(SV.agg [(U x12),(U x13),(U x14),(U x15),(U x16),(U x17),(U x18),(U x19)]),(SV.bool
 (B.lit Bool.true))])))))))))))))))):=by kernel_rfl
theorem vc_ie1 (msg dst:List Int) (l c l2 c2:Nat) (P:SV→Prop):(execF cxI u9 Tryz.f10 64 [.slice 9 (.lit 0) (.sym l) (.sym c),.slice 17 (.lit 0)
 (.sym l2) (.sym c2)] (memL [(2,⟨true,.ints .u32 kL⟩),(9,⟨true,.ints .u8 msg⟩),(17,⟨true,.ints .u8 dst⟩)]) fun v _=>P v)=(((0+(l*1))≤
 (List.length msg))∧((((List.length (List.take (l*1) (List.drop 0 msg)))=l)∧(l≤549755813888))∧(∀(ys0:(List Int)),(∀(cap1:Nat),((Rw ys0
 (List.take (l*1) (List.drop 0 msg)) l cap1)→(∀(ys2:(List Int)),((ys2=ys0)→(((0+(l2*1))≤(List.length dst))∧((((List.length (List.take
 (l2*1) (List.drop 0 dst)))=l2)∧(l2≤549755813888))∧(∀(ys3:(List Int)),(∀(cap4:Nat),((Rw ys3 (List.take (l2*1) (List.drop 0 dst)) l2 cap4)
 →(∀(ys5:(List Int)),((ys5=ys3)→((((0+(l*1))≤(List.length ys2))∧((0+(l2*1))≤(List.length ys5)))∧(((kL=kL)∧(((List.length (List.take
 (l*1) (List.drop 0 ys2)))=l)∧(((List.length (List.take (l2*1) (List.drop 0 ys5)))=l2)∧((l≤cap1)∧((l2≤cap4)∧((Bytes (List.take (l*1)
 (List.drop 0 ys2)))∧((Bytes (List.take (l2*1) (List.drop 0 ys5)))∧((l≤65536)∧((l2≤65536)∧(255<l2))))))))))∧(∀(s6:ByteArray),(P (SV.tup [(SV.agg [(SV.int IntKind.u64
 (A.lit 0)),(SV.int IntKind.u64 (A.lit 0)),(SV.int IntKind.u64 (A.lit 0)),(SV.int IntKind.u64 (A.lit 0)),(SV.int IntKind.u64 (A.lit 0)),(SV.int IntKind.u64
 (A.lit 0)),(SV.int IntKind.u64 (A.lit 0)),(SV.int IntKind.u64 (A.lit 0))]),(SV.bool (B.lit Bool.false))]))))))))))))))))))):=by kernel_rfl
theorem vc_ie1n (dst:List Int) (l2 c2:Nat) (P:SV→Prop):(execF cxI u9 Tryz.f10 64 [.val (.slice none 0 0),.slice 9 (.lit 0) (.sym l2) (.sym c2)]
 (memL [(2,⟨true,.ints .u32 kL⟩),(9,⟨true,.ints .u8 dst⟩)]) fun v _=>P v)=(((0+(l2*1))≤(List.length dst))∧((((List.length (List.take (l2*1)
 (List.drop 0 dst)))=l2)∧(l2≤549755813888))∧(∀(ys0:(List Int)),(∀(cap1:Nat),((Rw ys0 (List.take (l2*1) (List.drop 0 dst)) l2 cap1)→
 (∀(ys2:(List Int)),((ys2=ys0)→(((0+(l2*1))≤(List.length ys2))∧(((kL=kL)∧(((List.length (List.take (l2*1) (List.drop 0 ys2)))=l2)
 ∧((l2≤cap1)∧((Bytes (List.take (l2*1) (List.drop 0 ys2)))∧((l2≤65536)∧(255<l2))))))∧(∀(s3:ByteArray),(P (SV.tup [(SV.agg [(SV.int IntKind.u64
 (A.lit 0)),(SV.int IntKind.u64 (A.lit 0)),(SV.int IntKind.u64 (A.lit 0)),(SV.int IntKind.u64 (A.lit 0)),(SV.int IntKind.u64 (A.lit 0)),(SV.int IntKind.u64
 (A.lit 0)),(SV.int IntKind.u64 (A.lit 0)),(SV.int IntKind.u64 (A.lit 0))]),(SV.bool (B.lit Bool.false))])))))))))))):=by kernel_rfl
theorem vc_ih2 (msg dst:List Int) (l c l2 c2:Nat) (P:SV→Prop):(execF cxI u9 Tryz.f11 64 [.slice 9 (.lit 0) (.sym l) (.sym c),.slice 17 (.lit 0)
 (.sym l2) (.sym c2)] (memL [(2,⟨true,.ints .u32 kL⟩),(9,⟨true,.ints .u8 msg⟩),(17,⟨true,.ints .u8 dst⟩)]) fun v _=>P v)=(((0+(l*1))≤
 (List.length msg))∧((((List.length (List.take (l*1) (List.drop 0 msg)))=l)∧(l≤549755813888))∧(∀(ys0:(List Int)),(∀(cap1:Nat),((Rw ys0
 (List.take (l*1) (List.drop 0 msg)) l cap1)→(∀(ys2:(List Int)),((ys2=ys0)→(((0+(l2*1))≤(List.length dst))∧((((List.length (List.take
 (l2*1) (List.drop 0 dst)))=l2)∧(l2≤549755813888))∧(∀(ys3:(List Int)),(∀(cap4:Nat),((Rw ys3 (List.take (l2*1) (List.drop 0 dst)) l2 cap4)
 →(∀(ys5:(List Int)),((ys5=ys3)→((((0+(l*1))≤(List.length ys2))∧((0+(l2*1))≤(List.length ys5)))∧(((kL=kL)∧(((List.length (List.take
 (l*1) (List.drop 0 ys2)))=l)∧(((List.length (List.take (l2*1) (List.drop 0 ys5)))=l2)∧((l≤cap1)∧((l2≤cap4)∧((Bytes (List.take (l*1)
 (List.drop 0 ys2)))∧((Bytes (List.take (l2*1) (List.drop 0 ys5)))∧((l≤65536)∧((l2≤65536)∧(255<l2))))))))))∧(∀(s6:ByteArray),(P (SV.tup [(SV.agg [(SV.int IntKind.u64
 (A.lit 0)),(SV.int IntKind.u64 (A.lit 0)),(SV.int IntKind.u64 (A.lit 0)),(SV.int IntKind.u64 (A.lit 0)),(SV.int IntKind.u64 (A.lit 0)),(SV.int IntKind.u64
 (A.lit 0)),(SV.int IntKind.u64 (A.lit 0)),(SV.int IntKind.u64 (A.lit 0)),(SV.int IntKind.u64 (A.lit 0)),(SV.int IntKind.u64 (A.lit 0)),(SV.int IntKind.u64
 (A.lit 0)),(SV.int IntKind.u64 (A.lit 0)),(SV.int IntKind.u64 (A.lit 0)),(SV.int IntKind.u64 (A.lit 0)),(SV.int IntKind.u64 (A.lit 0)),(SV.int IntKind.u64
 (A.lit 0))]),(SV.bool (B.lit Bool.false))]))))))))))))))))))):=by kernel_rfl
theorem vc_ih2n (dst:List Int) (l2 c2:Nat) (P:SV→Prop):(execF cxI u9 Tryz.f11 64 [.val (.slice none 0 0),.slice 9 (.lit 0) (.sym l2) (.sym c2)]
 (memL [(2,⟨true,.ints .u32 kL⟩),(9,⟨true,.ints .u8 dst⟩)]) fun v _=>P v)=(((0+(l2*1))≤(List.length dst))∧((((List.length (List.take (l2*1)
 (List.drop 0 dst)))=l2)∧(l2≤549755813888))∧(∀(ys0:(List Int)),(∀(cap1:Nat),((Rw ys0 (List.take (l2*1) (List.drop 0 dst)) l2 cap1)→
 (∀(ys2:(List Int)),((ys2=ys0)→(((0+(l2*1))≤(List.length ys2))∧(((kL=kL)∧(((List.length (List.take (l2*1) (List.drop 0 ys2)))=l2)
 ∧((l2≤cap1)∧((Bytes (List.take (l2*1) (List.drop 0 ys2)))∧((l2≤65536)∧(255<l2))))))∧(∀(s3:ByteArray),(P (SV.tup [(SV.agg [(SV.int IntKind.u64
 (A.lit 0)),(SV.int IntKind.u64 (A.lit 0)),(SV.int IntKind.u64 (A.lit 0)),(SV.int IntKind.u64 (A.lit 0)),(SV.int IntKind.u64 (A.lit 0)),(SV.int IntKind.u64
 (A.lit 0)),(SV.int IntKind.u64 (A.lit 0)),(SV.int IntKind.u64 (A.lit 0)),(SV.int IntKind.u64 (A.lit 0)),(SV.int IntKind.u64 (A.lit 0)),(SV.int IntKind.u64
 (A.lit 0)),(SV.int IntKind.u64 (A.lit 0)),(SV.int IntKind.u64 (A.lit 0)),(SV.int IntKind.u64 (A.lit 0)),(SV.int IntKind.u64 (A.lit 0)),(SV.int IntKind.u64
 (A.lit 0))]),(SV.bool (B.lit Bool.false))])))))))))))):=by kernel_rfl
theorem vc_ie2 (msg dst:List Int) (l c l2 c2:Nat) (P:SV→Prop):(execF cxI u9 Tryz.f12 64 [.slice 9 (.lit 0) (.sym l) (.sym c),.slice 17 (.lit 0)
 (.sym l2) (.sym c2)] (memL [(2,⟨true,.ints .u32 kL⟩),(9,⟨true,.ints .u8 msg⟩),(17,⟨true,.ints .u8 dst⟩)]) fun v _=>P v)=(((0+(l*1))≤
 (List.length msg))∧((((List.length (List.take (l*1) (List.drop 0 msg)))=l)∧(l≤549755813888))∧(∀(ys0:(List Int)),(∀(cap1:Nat),((Rw ys0
 (List.take (l*1) (List.drop 0 msg)) l cap1)→(∀(ys2:(List Int)),((ys2=ys0)→(((0+(l2*1))≤(List.length dst))∧((((List.length (List.take
 (l2*1) (List.drop 0 dst)))=l2)∧(l2≤549755813888))∧(∀(ys3:(List Int)),(∀(cap4:Nat),((Rw ys3 (List.take (l2*1) (List.drop 0 dst)) l2 cap4)
 →(∀(ys5:(List Int)),((ys5=ys3)→((((0+(l*1))≤(List.length ys2))∧((0+(l2*1))≤(List.length ys5)))∧(((kL=kL)∧(((List.length (List.take
 (l*1) (List.drop 0 ys2)))=l)∧(((List.length (List.take (l2*1) (List.drop 0 ys5)))=l2)∧((l≤cap1)∧((l2≤cap4)∧((Bytes (List.take (l*1)
 (List.drop 0 ys2)))∧((Bytes (List.take (l2*1) (List.drop 0 ys5)))∧((l≤65536)∧((l2≤65536)∧(255<l2))))))))))∧(∀(s6:ByteArray),(P (SV.tup [(SV.agg [(SV.int IntKind.u64
 (A.lit 0)),(SV.int IntKind.u64 (A.lit 0)),(SV.int IntKind.u64 (A.lit 0)),(SV.int IntKind.u64 (A.lit 0)),(SV.int IntKind.u64 (A.lit 0)),(SV.int IntKind.u64
 (A.lit 0)),(SV.int IntKind.u64 (A.lit 0)),(SV.int IntKind.u64 (A.lit 0)),(SV.int IntKind.u64 (A.lit 0)),(SV.int IntKind.u64 (A.lit 0)),(SV.int IntKind.u64
 (A.lit 0)),(SV.int IntKind.u64 (A.lit 0)),(SV.int IntKind.u64 (A.lit 0)),(SV.int IntKind.u64 (A.lit 0)),(SV.int IntKind.u64 (A.lit 0)),(SV.int IntKind.u64
 (A.lit 0))]),(SV.bool (B.lit Bool.false))]))))))))))))))))))):=by kernel_rfl
theorem vc_ie2n (dst:List Int) (l2 c2:Nat) (P:SV→Prop):(execF cxI u9 Tryz.f12 64 [.val (.slice none 0 0),.slice 9 (.lit 0) (.sym l2) (.sym c2)]
 (memL [(2,⟨true,.ints .u32 kL⟩),(9,⟨true,.ints .u8 dst⟩)]) fun v _=>P v)=(((0+(l2*1))≤(List.length dst))∧((((List.length (List.take (l2*1)
 (List.drop 0 dst)))=l2)∧(l2≤549755813888))∧(∀(ys0:(List Int)),(∀(cap1:Nat),((Rw ys0 (List.take (l2*1) (List.drop 0 dst)) l2 cap1)→
 (∀(ys2:(List Int)),((ys2=ys0)→(((0+(l2*1))≤(List.length ys2))∧(((kL=kL)∧(((List.length (List.take (l2*1) (List.drop 0 ys2)))=l2)
 ∧((l2≤cap1)∧((Bytes (List.take (l2*1) (List.drop 0 ys2)))∧((l2≤65536)∧(255<l2))))))∧(∀(s3:ByteArray),(P (SV.tup [(SV.agg [(SV.int IntKind.u64
 (A.lit 0)),(SV.int IntKind.u64 (A.lit 0)),(SV.int IntKind.u64 (A.lit 0)),(SV.int IntKind.u64 (A.lit 0)),(SV.int IntKind.u64 (A.lit 0)),(SV.int IntKind.u64
 (A.lit 0)),(SV.int IntKind.u64 (A.lit 0)),(SV.int IntKind.u64 (A.lit 0)),(SV.int IntKind.u64 (A.lit 0)),(SV.int IntKind.u64 (A.lit 0)),(SV.int IntKind.u64
 (A.lit 0)),(SV.int IntKind.u64 (A.lit 0)),(SV.int IntKind.u64 (A.lit 0)),(SV.int IntKind.u64 (A.lit 0)),(SV.int IntKind.u64 (A.lit 0)),(SV.int IntKind.u64
 (A.lit 0))]),(SV.bool (B.lit Bool.false))])))))))))))):=by kernel_rfl
theorem adX_lt {a b c d:Nat} (ha:a<qN) (hc:c<qN):adX a b c d<qN:=by
 unfold adX
 split
 ·exact hc
 ·split
  ·exact ha
  ·split
   ·exact spX_lt _ _ _
   ·split
    ·exact spX_lt _ _ _
    ·decide
theorem adY_lt {a b c d:Nat} (hb:b<qN) (hd:d<qN):adY a b c d<qN:=by
 unfold adY
 split
 ·exact hd
 ·split
  ·exact hb
  ·split
   ·exact spY_lt _ _ _ _
   ·split
    ·exact spY_lt _ _ _ _
    ·decide
theorem sX_lt (A B:Nat):sX A B<qN:=adX_lt (mxN_lt A) (mxN_lt B)
theorem sY_lt (A B:Nat):sY A B<qN:=adY_lt (myN_lt A) (myN_lt B)
theorem Rw.full {ys xs:List Int} {n cap:Nat} (h:Rw ys xs n cap):List.take (n*1) (List.drop 0 ys)=xs∧n≤cap∧n≤ys.length:=⟨h.take1,h.le,by rw[h.len];exact h.le⟩
theorem ih1_walk (msg dst:List Int) (l c l2 c2:Nat) (P:SV→Prop) (h1:msg.length=l) (h2:dst.length=l2) (hb:Bytes msg) (hd:Bytes dst) (h5:l≤65536) (h6:l2≤65536) (hE:255<l2→P (.tup [.agg [.int .u64 (.lit 0),.int .u64 (.lit 0),.int .u64 (.lit 0),.int .u64 (.lit 0),.int .u64 (.lit 0),.int .u64 (.lit 0),.int .u64 (.lit 0),.int .u64 (.lit 0)],.bool (.lit false)])) (hP:l2≤255→P (.tup [.agg [U (lm (sX (spN (expand msg dst 96) 0) (spN (expand msg dst 96) 1)) 0),U (lm (sX (spN (expand msg dst 96) 0) (spN (expand msg dst 96) 1)) 1),U (lm (sX (spN (expand msg dst 96) 0) (spN (expand msg dst 96) 1)) 2),U (lm (sX (spN (expand msg dst 96) 0) (spN (expand msg dst 96) 1)) 3),U (lm (sY (spN (expand msg dst 96) 0) (spN (expand msg dst 96) 1)) 0),U (lm (sY (spN (expand msg dst 96) 0) (spN (expand msg dst 96) 1)) 1),U (lm (sY (spN (expand msg dst 96) 0) (spN (expand msg dst 96) 1)) 2),U (lm (sY (spN (expand msg dst 96) 0) (spN (expand msg dst 96) 1)) 3)],.bool (.lit true)])):
  execF cxI u9 Tryz.f9 64 [.slice 9 (.lit 0) (.sym l) (.sym c),.slice 17 (.lit 0) (.sym l2) (.sym c2)] (memL [(2,⟨true,.ints .u32 kL⟩),(9,⟨true,.ints .u8 msg⟩),(17,⟨true,.ints .u8 dst⟩)]) fun v _=>P v:=by
 rw[vc_ih1,td_full h1,td_full h2]
 refine ⟨by omega,⟨h1,by omega⟩,?_⟩
 intro ys cap r1 zs hz
 subst zs
 refine ⟨by omega,⟨h2,by omega⟩,?_⟩
 intro zs cap2 r2 ws hw
 subst ws
 obtain ⟨e1,e2,e3⟩:=r1.full
 obtain ⟨f1,f2,f3⟩:=r2.full
 rw[e1,f1]
 refine ⟨⟨by omega,by omega⟩,⟨rfl,h1,h2,e2,f2,hb,hd,h5,h6⟩,fun h s=>hE (by omega),fun h=> ?_⟩
 have hP:=hP (by omega)
 generalize spN (expand msg dst 96) 0=A at *
 generalize spN (expand msg dst 96) 1=B at *
 rw[L4_eq,L4_eq]
 refine ⟨⟨lm4_wd _,lm4_wd _⟩,?_⟩
 rw[N4l (mont_lt _),N4l (mont_lt _),mont_back,mont_back,Nat.mod_eq_of_lt (sX_lt A B),Nat.mod_eq_of_lt (sY_lt A B),L4_eq,L4_eq]
 exact hP
theorem ih1n_walk (dst:List Int) (l2 c2:Nat) (P:SV→Prop) (h2:dst.length=l2) (hd:Bytes dst) (h6:l2≤65536) (hE:255<l2→P (.tup [.agg [.int .u64 (.lit 0),.int .u64 (.lit 0),.int .u64 (.lit 0),.int .u64 (.lit 0),.int .u64 (.lit 0),.int .u64 (.lit 0),.int .u64 (.lit 0),.int .u64 (.lit 0)],.bool (.lit false)])) (hP:l2≤255→P (.tup [.agg [U (lm (sX (spN (expand [] dst 96) 0) (spN (expand [] dst 96) 1)) 0),U (lm (sX (spN (expand [] dst 96) 0) (spN (expand [] dst 96) 1)) 1),U (lm (sX (spN (expand [] dst 96) 0) (spN (expand [] dst 96) 1)) 2),U (lm (sX (spN (expand [] dst 96) 0) (spN (expand [] dst 96) 1)) 3),U (lm (sY (spN (expand [] dst 96) 0) (spN (expand [] dst 96) 1)) 0),U (lm (sY (spN (expand [] dst 96) 0) (spN (expand [] dst 96) 1)) 1),U (lm (sY (spN (expand [] dst 96) 0) (spN (expand [] dst 96) 1)) 2),U (lm (sY (spN (expand [] dst 96) 0) (spN (expand [] dst 96) 1)) 3)],.bool (.lit true)])):
  execF cxI u9 Tryz.f9 64 [.val (.slice none 0 0),.slice 9 (.lit 0) (.sym l2) (.sym c2)] (memL [(2,⟨true,.ints .u32 kL⟩),(9,⟨true,.ints .u8 dst⟩)]) fun v _=>P v:=by
 rw[vc_ih1n,td_full h2]
 refine ⟨by omega,⟨h2,by omega⟩,?_⟩
 intro zs cap2 r2 ws hw
 subst ws
 obtain ⟨f1,f2,f3⟩:=r2.full
 rw[f1]
 refine ⟨by omega,⟨rfl,h2,f2,hd,h6⟩,fun h s=>hE (by omega),fun h=> ?_⟩
 have hP:=hP (by omega)
 generalize spN (expand [] dst 96) 0=A at *
 generalize spN (expand [] dst 96) 1=B at *
 rw[L4_eq,L4_eq]
 refine ⟨⟨lm4_wd _,lm4_wd _⟩,?_⟩
 rw[N4l (mont_lt _),N4l (mont_lt _),mont_back,mont_back,Nat.mod_eq_of_lt (sX_lt A B),Nat.mod_eq_of_lt (sY_lt A B),L4_eq,L4_eq]
 exact hP
def rIh1:R0:=fun args l=>
 match args,l with
 | [.slice 9 (.lit 0) (.sym n1) (.sym _),.slice 17 (.lit 0) (.sym n2) (.sym _)],[(2,⟨true,.ints .u32 ks⟩),(9,⟨true,.ints .u8 msg⟩),(17,⟨true,.ints .u8 dst⟩)]=>
  some (some (ks=kL∧msg.length=n1∧dst.length=n2∧Bytes msg∧Bytes dst∧n1≤65536∧n2≤65536),.tup [.agg [U (if n2≤255 then lm (sX (spN (expand msg dst 96) 0) (spN (expand msg dst 96) 1)) 0 else 0),U (if n2≤255 then lm (sX (spN (expand msg dst 96) 0) (spN (expand msg dst 96) 1)) 1 else 0),U (if n2≤255 then lm (sX (spN (expand msg dst 96) 0) (spN (expand msg dst 96) 1)) 2 else 0),U (if n2≤255 then lm (sX (spN (expand msg dst 96) 0) (spN (expand msg dst 96) 1)) 3 else 0),U (if n2≤255 then lm (sY (spN (expand msg dst 96) 0) (spN (expand msg dst 96) 1)) 0 else 0),U (if n2≤255 then lm (sY (spN (expand msg dst 96) 0) (spN (expand msg dst 96) 1)) 1 else 0),U (if n2≤255 then lm (sY (spN (expand msg dst 96) 0) (spN (expand msg dst 96) 1)) 2 else 0),U (if n2≤255 then lm (sY (spN (expand msg dst 96) 0) (spN (expand msg dst 96) 1)) 3 else 0)],.bool (.sym (decide (n2≤255)))])
 | [.val (.slice none 0 0),.slice 9 (.lit 0) (.sym n2) (.sym _)],[(2,⟨true,.ints .u32 ks⟩),(9,⟨true,.ints .u8 dst⟩)]=>
  some (some (ks=kL∧dst.length=n2∧Bytes dst∧n2≤65536),.tup [.agg [U (if n2≤255 then lm (sX (spN (expand [] dst 96) 0) (spN (expand [] dst 96) 1)) 0 else 0),U (if n2≤255 then lm (sX (spN (expand [] dst 96) 0) (spN (expand [] dst 96) 1)) 1 else 0),U (if n2≤255 then lm (sX (spN (expand [] dst 96) 0) (spN (expand [] dst 96) 1)) 2 else 0),U (if n2≤255 then lm (sX (spN (expand [] dst 96) 0) (spN (expand [] dst 96) 1)) 3 else 0),U (if n2≤255 then lm (sY (spN (expand [] dst 96) 0) (spN (expand [] dst 96) 1)) 0 else 0),U (if n2≤255 then lm (sY (spN (expand [] dst 96) 0) (spN (expand [] dst 96) 1)) 1 else 0),U (if n2≤255 then lm (sY (spN (expand [] dst 96) 0) (spN (expand [] dst 96) 1)) 2 else 0),U (if n2≤255 then lm (sY (spN (expand [] dst 96) 0) (spN (expand [] dst 96) 1)) 3 else 0)],.bool (.sym (decide (n2≤255)))])
 | _,_=>none
theorem ih1_ok (args:List SV) (l:List (Nat×Reg)) (p:Ob) (v:SV) (h:rIh1 args l=some (p,v)) (hp:p.ok):∃U,execF cxI U Tryz.f9 64 args (memL l) fun v' _=>∀β u,Den β v' u→Den β v u:=by
 unfold rIh1 at h
 split at h
 ·rename_i n1 c1 n2 c2 ks msg dst
  simp only[Option.some.injEq,Prod.mk.injEq]at h
  obtain ⟨rfl,rfl⟩:=h
  obtain ⟨rfl,h1,h2,hb,hd,h5,h6⟩:=(show ks=kL∧msg.length=n1∧dst.length=n2∧Bytes msg∧Bytes dst∧n1≤65536∧n2≤65536 from hp)
  refine ⟨u9,ih1_walk msg dst n1 c1 n2 c2 (fun v'=>∀β u,Den β v' u→Den β (.tup [.agg [U (if n2≤255 then lm (sX (spN (expand msg dst 96) 0) (spN (expand msg dst 96) 1)) 0 else 0),U (if n2≤255 then lm (sX (spN (expand msg dst 96) 0) (spN (expand msg dst 96) 1)) 1 else 0),U (if n2≤255 then lm (sX (spN (expand msg dst 96) 0) (spN (expand msg dst 96) 1)) 2 else 0),U (if n2≤255 then lm (sX (spN (expand msg dst 96) 0) (spN (expand msg dst 96) 1)) 3 else 0),U (if n2≤255 then lm (sY (spN (expand msg dst 96) 0) (spN (expand msg dst 96) 1)) 0 else 0),U (if n2≤255 then lm (sY (spN (expand msg dst 96) 0) (spN (expand msg dst 96) 1)) 1 else 0),U (if n2≤255 then lm (sY (spN (expand msg dst 96) 0) (spN (expand msg dst 96) 1)) 2 else 0),U (if n2≤255 then lm (sY (spN (expand msg dst 96) 0) (spN (expand msg dst 96) 1)) 3 else 0)],.bool (.sym (decide (n2≤255)))]) u) h1 h2 hb hd h5 h6 (fun k=> ?_) (fun k=> ?_)⟩
  ·have k:¬n2≤255:=by omega
   intro β u hu
   simp only[if_neg k,decide_eq_false k,Den,DenL,A.val,B.val]at hu ⊢
   exact hu
  ·intro β u hu
   simp only[if_pos k,decide_eq_true k,Den,DenL,A.val,B.val]at hu ⊢
   exact hu
 ·rename_i n2 c2 ks dst
  simp only[Option.some.injEq,Prod.mk.injEq]at h
  obtain ⟨rfl,rfl⟩:=h
  obtain ⟨rfl,h2,hd,h6⟩:=(show ks=kL∧dst.length=n2∧Bytes dst∧n2≤65536 from hp)
  refine ⟨u9,ih1n_walk dst n2 c2 (fun v'=>∀β u,Den β v' u→Den β (.tup [.agg [U (if n2≤255 then lm (sX (spN (expand [] dst 96) 0) (spN (expand [] dst 96) 1)) 0 else 0),U (if n2≤255 then lm (sX (spN (expand [] dst 96) 0) (spN (expand [] dst 96) 1)) 1 else 0),U (if n2≤255 then lm (sX (spN (expand [] dst 96) 0) (spN (expand [] dst 96) 1)) 2 else 0),U (if n2≤255 then lm (sX (spN (expand [] dst 96) 0) (spN (expand [] dst 96) 1)) 3 else 0),U (if n2≤255 then lm (sY (spN (expand [] dst 96) 0) (spN (expand [] dst 96) 1)) 0 else 0),U (if n2≤255 then lm (sY (spN (expand [] dst 96) 0) (spN (expand [] dst 96) 1)) 1 else 0),U (if n2≤255 then lm (sY (spN (expand [] dst 96) 0) (spN (expand [] dst 96) 1)) 2 else 0),U (if n2≤255 then lm (sY (spN (expand [] dst 96) 0) (spN (expand [] dst 96) 1)) 3 else 0)],.bool (.sym (decide (n2≤255)))]) u) h2 hd h6 (fun k=> ?_) (fun k=> ?_)⟩
  ·have k:¬n2≤255:=by omega
   intro β u hu
   simp only[if_neg k,decide_eq_false k,Den,DenL,A.val,B.val]at hu ⊢
   exact hu
  ·intro β u hu
   simp only[if_pos k,decide_eq_true k,Den,DenL,A.val,B.val]at hu ⊢
   exact hu
 ·cases h
def cIh1:Rd Tryz.prog:=mkQ mixed 9 Tryz.func9 (by decide) (by kernel_rfl) [1] [.sl 1 true,.sl 1 true] rIh1 ih1_ok
def rEr (z:SV):R0:=fun args l=>
 match args,l with
 | [.slice 9 (.lit 0) (.sym n1) (.sym _),.slice 17 (.lit 0) (.sym n2) (.sym _)],[(2,⟨true,.ints .u32 ks⟩),(9,⟨true,.ints .u8 msg⟩),(17,⟨true,.ints .u8 dst⟩)]=>
  some (some (ks=kL∧msg.length=n1∧dst.length=n2∧Bytes msg∧Bytes dst∧n1≤65536∧n2≤65536∧255<n2),z)
 | [.val (.slice none 0 0),.slice 9 (.lit 0) (.sym n2) (.sym _)],[(2,⟨true,.ints .u32 ks⟩),(9,⟨true,.ints .u8 dst⟩)]=>
  some (some (ks=kL∧dst.length=n2∧Bytes dst∧n2≤65536∧255<n2),z)
 | _,_=>none
theorem ie1_ok (args:List SV) (l:List (Nat×Reg)) (p:Ob) (v:SV) (h:rEr (.tup [.agg [.int .u64 (.lit 0),.int .u64 (.lit 0),.int .u64 (.lit 0),.int .u64 (.lit 0),.int .u64 (.lit 0),.int .u64 (.lit 0),.int .u64 (.lit 0),.int .u64 (.lit 0)],.bool (.lit false)]) args l=some (p,v)) (hp:p.ok):∃U,execF cxI U Tryz.f10 64 args (memL l) fun v' _=>v'=v:=by
 unfold rEr at h
 split at h
 ·rename_i n1 c1 n2 c2 ks msg dst
  simp only[Option.some.injEq,Prod.mk.injEq]at h
  obtain ⟨rfl,rfl⟩:=h
  obtain ⟨rfl,h1,h2,hb,hd,h5,h6,h7⟩:=(show ks=kL∧msg.length=n1∧dst.length=n2∧Bytes msg∧Bytes dst∧n1≤65536∧n2≤65536∧255<n2 from hp)
  refine ⟨u9,?_⟩
  rw[vc_ie1 _ _ _ _ _ _ fun v'=>v'=_,td_full h1,td_full h2]
  refine ⟨by omega,⟨h1,by omega⟩,?_⟩
  intro ys cap r1 zs hz
  subst zs
  refine ⟨by omega,⟨h2,by omega⟩,?_⟩
  intro zs cap2 r2 ws hw
  subst ws
  obtain ⟨e1,e2,e3⟩:=r1.full
  obtain ⟨f1,f2,f3⟩:=r2.full
  rw[e1,f1]
  exact ⟨⟨by omega,by omega⟩,⟨rfl,h1,h2,e2,f2,hb,hd,h5,h6,h7⟩,fun _=>rfl⟩
 ·rename_i n2 c2 ks dst
  simp only[Option.some.injEq,Prod.mk.injEq]at h
  obtain ⟨rfl,rfl⟩:=h
  obtain ⟨rfl,h2,hd,h6,h7⟩:=(show ks=kL∧dst.length=n2∧Bytes dst∧n2≤65536∧255<n2 from hp)
  refine ⟨u9,?_⟩
  rw[vc_ie1n _ _ _ fun v'=>v'=_,td_full h2]
  refine ⟨by omega,⟨h2,by omega⟩,?_⟩
  intro zs cap2 r2 ws hw
  subst ws
  obtain ⟨f1,f2,f3⟩:=r2.full
  rw[f1]
  exact ⟨by omega,⟨rfl,h2,f2,hd,h6,h7⟩,fun _=>rfl⟩
 ·cases h
def cIe1:Rd Tryz.prog:=mkR mixed 10 Tryz.func10 (by decide) (by kernel_rfl) [1] [.sl 1 true,.sl 1 true] (rEr (.tup [.agg [.int .u64 (.lit 0),.int .u64 (.lit 0),.int .u64 (.lit 0),.int .u64 (.lit 0),.int .u64 (.lit 0),.int .u64 (.lit 0),.int .u64 (.lit 0),.int .u64 (.lit 0)],.bool (.lit false)])) ie1_ok
theorem ih2_ok (args:List SV) (l:List (Nat×Reg)) (p:Ob) (v:SV) (h:rEr (.tup [.agg [.int .u64 (.lit 0),.int .u64 (.lit 0),.int .u64 (.lit 0),.int .u64 (.lit 0),.int .u64 (.lit 0),.int .u64 (.lit 0),.int .u64 (.lit 0),.int .u64 (.lit 0),.int .u64 (.lit 0),.int .u64 (.lit 0),.int .u64 (.lit 0),.int .u64 (.lit 0),.int .u64 (.lit 0),.int .u64 (.lit 0),.int .u64 (.lit 0),.int .u64 (.lit 0)],.bool (.lit false)]) args l=some (p,v)) (hp:p.ok):∃U,execF cxI U Tryz.f11 64 args (memL l) fun v' _=>v'=v:=by
 unfold rEr at h
 split at h
 ·rename_i n1 c1 n2 c2 ks msg dst
  simp only[Option.some.injEq,Prod.mk.injEq]at h
  obtain ⟨rfl,rfl⟩:=h
  obtain ⟨rfl,h1,h2,hb,hd,h5,h6,h7⟩:=(show ks=kL∧msg.length=n1∧dst.length=n2∧Bytes msg∧Bytes dst∧n1≤65536∧n2≤65536∧255<n2 from hp)
  refine ⟨u9,?_⟩
  rw[vc_ih2 _ _ _ _ _ _ fun v'=>v'=_,td_full h1,td_full h2]
  refine ⟨by omega,⟨h1,by omega⟩,?_⟩
  intro ys cap r1 zs hz
  subst zs
  refine ⟨by omega,⟨h2,by omega⟩,?_⟩
  intro zs cap2 r2 ws hw
  subst ws
  obtain ⟨e1,e2,e3⟩:=r1.full
  obtain ⟨f1,f2,f3⟩:=r2.full
  rw[e1,f1]
  exact ⟨⟨by omega,by omega⟩,⟨rfl,h1,h2,e2,f2,hb,hd,h5,h6,h7⟩,fun _=>rfl⟩
 ·rename_i n2 c2 ks dst
  simp only[Option.some.injEq,Prod.mk.injEq]at h
  obtain ⟨rfl,rfl⟩:=h
  obtain ⟨rfl,h2,hd,h6,h7⟩:=(show ks=kL∧dst.length=n2∧Bytes dst∧n2≤65536∧255<n2 from hp)
  refine ⟨u9,?_⟩
  rw[vc_ih2n _ _ _ fun v'=>v'=_,td_full h2]
  refine ⟨by omega,⟨h2,by omega⟩,?_⟩
  intro zs cap2 r2 ws hw
  subst ws
  obtain ⟨f1,f2,f3⟩:=r2.full
  rw[f1]
  exact ⟨by omega,⟨rfl,h2,f2,hd,h6,h7⟩,fun _=>rfl⟩
 ·cases h
def cIh2:Rd Tryz.prog:=mkR mixed 11 Tryz.func11 (by decide) (by kernel_rfl) [1] [.sl 1 true,.sl 1 true] (rEr (.tup [.agg [.int .u64 (.lit 0),.int .u64 (.lit 0),.int .u64 (.lit 0),.int .u64 (.lit 0),.int .u64 (.lit 0),.int .u64 (.lit 0),.int .u64 (.lit 0),.int .u64 (.lit 0),.int .u64 (.lit 0),.int .u64 (.lit 0),.int .u64 (.lit 0),.int .u64 (.lit 0),.int .u64 (.lit 0),.int .u64 (.lit 0),.int .u64 (.lit 0),.int .u64 (.lit 0)],.bool (.lit false)])) ih2_ok
theorem ie2_ok (args:List SV) (l:List (Nat×Reg)) (p:Ob) (v:SV) (h:rEr (.tup [.agg [.int .u64 (.lit 0),.int .u64 (.lit 0),.int .u64 (.lit 0),.int .u64 (.lit 0),.int .u64 (.lit 0),.int .u64 (.lit 0),.int .u64 (.lit 0),.int .u64 (.lit 0),.int .u64 (.lit 0),.int .u64 (.lit 0),.int .u64 (.lit 0),.int .u64 (.lit 0),.int .u64 (.lit 0),.int .u64 (.lit 0),.int .u64 (.lit 0),.int .u64 (.lit 0)],.bool (.lit false)]) args l=some (p,v)) (hp:p.ok):∃U,execF cxI U Tryz.f12 64 args (memL l) fun v' _=>v'=v:=by
 unfold rEr at h
 split at h
 ·rename_i n1 c1 n2 c2 ks msg dst
  simp only[Option.some.injEq,Prod.mk.injEq]at h
  obtain ⟨rfl,rfl⟩:=h
  obtain ⟨rfl,h1,h2,hb,hd,h5,h6,h7⟩:=(show ks=kL∧msg.length=n1∧dst.length=n2∧Bytes msg∧Bytes dst∧n1≤65536∧n2≤65536∧255<n2 from hp)
  refine ⟨u9,?_⟩
  rw[vc_ie2 _ _ _ _ _ _ fun v'=>v'=_,td_full h1,td_full h2]
  refine ⟨by omega,⟨h1,by omega⟩,?_⟩
  intro ys cap r1 zs hz
  subst zs
  refine ⟨by omega,⟨h2,by omega⟩,?_⟩
  intro zs cap2 r2 ws hw
  subst ws
  obtain ⟨e1,e2,e3⟩:=r1.full
  obtain ⟨f1,f2,f3⟩:=r2.full
  rw[e1,f1]
  exact ⟨⟨by omega,by omega⟩,⟨rfl,h1,h2,e2,f2,hb,hd,h5,h6,h7⟩,fun _=>rfl⟩
 ·rename_i n2 c2 ks dst
  simp only[Option.some.injEq,Prod.mk.injEq]at h
  obtain ⟨rfl,rfl⟩:=h
  obtain ⟨rfl,h2,hd,h6,h7⟩:=(show ks=kL∧dst.length=n2∧Bytes dst∧n2≤65536∧255<n2 from hp)
  refine ⟨u9,?_⟩
  rw[vc_ie2n _ _ _ fun v'=>v'=_,td_full h2]
  refine ⟨by omega,⟨h2,by omega⟩,?_⟩
  intro zs cap2 r2 ws hw
  subst ws
  obtain ⟨f1,f2,f3⟩:=r2.full
  rw[f1]
  exact ⟨by omega,⟨rfl,h2,f2,hd,h6,h7⟩,fun _=>rfl⟩
 ·cases h
def cIe2:Rd Tryz.prog:=mkR mixed 12 Tryz.func12 (by decide) (by kernel_rfl) [1] [.sl 1 true,.sl 1 true] (rEr (.tup [.agg [.int .u64 (.lit 0),.int .u64 (.lit 0),.int .u64 (.lit 0),.int .u64 (.lit 0),.int .u64 (.lit 0),.int .u64 (.lit 0),.int .u64 (.lit 0),.int .u64 (.lit 0),.int .u64 (.lit 0),.int .u64 (.lit 0),.int .u64 (.lit 0),.int .u64 (.lit 0),.int .u64 (.lit 0),.int .u64 (.lit 0),.int .u64 (.lit 0),.int .u64 (.lit 0)],.bool (.lit false)])) ie2_ok
def cxLl:Cx Tryz.prog:= { rds:= [cIh1,cIe1,cIh2,cIe2],efs:= [],eqs:= [] }
def CdM (msg:List Int) (l:Nat) (ys:List Int) (n:Nat):Prop:=(0+l*1≤msg.length∧0+n*1≤ys.length)∧kL=kL∧List.length (List.take (l*1) (List.drop 0 msg))=l∧List.length (List.take (n*1) (List.drop 0 ys))=n∧Bytes (List.take (l*1) (List.drop 0 msg))∧Bytes (List.take (n*1) (List.drop 0 ys))∧l≤65536∧n≤65536
def CeM (msg:List Int) (l:Nat) (ys:List Int) (n:Nat):Prop:=(0+l*1≤msg.length∧0+n*1≤ys.length)∧kL=kL∧List.length (List.take (l*1) (List.drop 0 msg))=l∧List.length (List.take (n*1) (List.drop 0 ys))=n∧Bytes (List.take (l*1) (List.drop 0 msg))∧Bytes (List.take (n*1) (List.drop 0 ys))∧l≤65536∧n≤65536∧255<n
def CdN (ys:List Int) (n:Nat):Prop:=0+n*1≤ys.length∧kL=kL∧List.length (List.take (n*1) (List.drop 0 ys))=n∧Bytes (List.take (n*1) (List.drop 0 ys))∧n≤65536
def CeN (ys:List Int) (n:Nat):Prop:=0+n*1≤ys.length∧kL=kL∧List.length (List.take (n*1) (List.drop 0 ys))=n∧Bytes (List.take (n*1) (List.drop 0 ys))∧n≤65536∧255<n
def LlC (C E:List Int→Nat→Prop) (ys:List Int) (n:Nat) (P:SV→Prop):Prop:=
 C ys n∧E ys n∧E ys n∧E ys n∧C [1] 1∧((!decide (n≤255))=true→P (.bool (.sym (decide (1≤255)))))∧((!decide (n≤255))=false→P (.bool (.lit false)))
def LlA (C E:List Int→Nat→Prop) (mr:List Int) (l2:Nat) (P:SV→Prop):Prop:=
 ((0:Int)≤256∧(256:Int)≤140737488355328∧(256:Int)≤140737488355328)∧((256≤256∧256≤256)∧Nat.le (0+l2*1) mr.length∧(256+l2)*1≤549755813888∧256+l2≤549755813888)∧
 ∀(cap:Nat) (ys:List Int),(256+l2≤cap∧ys.length=cap*1∧List.take ((256+l2)*1) ys=List.take 256 (List.drop 0 (List.replicate 256 0))++List.take (l2*1) (List.drop 0 mr))→LlC C E ys (256+l2) P
def LlZ (C E:List Int→Nat→Prop) (P:SV→Prop):Prop:=
 ((0:Int)≤256∧(256:Int)≤140737488355328∧(256:Int)≤140737488355328)∧((256≤256∧256≤256)∧True∧256≤549755813888∧256≤549755813888)∧
 ∀(cap:Nat) (ys:List Int),(256≤cap∧ys.length=cap*1∧List.take 256 ys=List.take 256 (List.drop 0 (List.replicate 256 0))++ [])→LlC C E ys 256 P
def LlG (l:Nat) (b:Int) (P:SV→Prop) (X:Prop):Prop:=B1 ((l:Nat):Int) fun x=>(decide (x>b)=true→P (.bool (.lit true)))∧(decide (x>b)=false→X)
theorem vc_ll (msg mr:List Int) (l c l2 c2:Nat) (P:SV→Prop):(execF cxLl u9 Tryz.f4 64 [.slice 9 (.lit 0) (.sym l) (.sym c),.slice 17 (.lit 0) (.sym l2) (.sym c2)] (memL [(2,⟨true,.ints .u32 kL⟩),(9,⟨true,.ints .u8 msg⟩),(17,⟨true,.ints .u8 mr⟩)]) fun v _=>P v)=
 LlG l 2147483647 P (LlG l2 2147483647 P (LlG l 4096 P (LlG l2 1000 P (LlA (CdM msg l) (CeM msg l) mr l2 P)))):=by kernel_rfl
theorem vc_lln (mr:List Int) (l2 c2:Nat) (P:SV→Prop):(execF cxLl u9 Tryz.f4 64 [.val (.slice none 0 0),.slice 17 (.lit 0) (.sym l2) (.sym c2)] (memL [(2,⟨true,.ints .u32 kL⟩),(17,⟨true,.ints .u8 mr⟩)]) fun v _=>P v)=
 LlG l2 2147483647 P (LlG l2 1000 P (LlA CdN CeN mr l2 P)):=by kernel_rfl
theorem vc_llm (msg:List Int) (l c:Nat) (P:SV→Prop):(execF cxLl u9 Tryz.f4 64 [.slice 9 (.lit 0) (.sym l) (.sym c),.val (.slice none 0 0)] (memL [(2,⟨true,.ints .u32 kL⟩),(9,⟨true,.ints .u8 msg⟩)]) fun v _=>P v)=
 LlG l 2147483647 P (LlG l 4096 P (LlZ (CdM msg l) (CeM msg l) P)):=by kernel_rfl
theorem vc_llz (P:SV→Prop):(execF cxLl u9 Tryz.f4 64 [.val (.slice none 0 0),.val (.slice none 0 0)] (memL [(2,⟨true,.ints .u32 kL⟩)]) fun v _=>P v)=
 LlZ CdN CeN P:=by kernel_rfl
theorem cut_bytes {xs:List Int} {l:Nat} (h:l≤xs.length) (hb:Bytes xs):(List.take (l*1) (List.drop 0 xs)).length=l∧Bytes (List.take (l*1) (List.drop 0 xs)):=
 ⟨by simp;omega,(hb.drop 0).take _⟩
theorem LlG.of {l:Nat} {b:Int} {P:SV→Prop} {X:Prop} (hT:P (.bool (.lit true))) (h:(l:Int)≤b→X):LlG l b P X:=by
 unfold LlG
 rw[B1_eq]
 refine ⟨fun _=>hT,fun t=>h ?_⟩
 simpa using t
theorem LlC.of {C E:List Int→Nat→Prop} {ys:List Int} {n:Nat} {P:SV→Prop} (hT:P (.bool (.sym true))) (hn:256≤n) (h65:n≤65536) (hl:n≤ys.length) (hb:Bytes (List.take (n*1) (List.drop 0 ys)))
  (hC:∀ {ys n},n≤65536→n≤ys.length→Bytes (List.take (n*1) (List.drop 0 ys))→C ys n) (hE:∀ {ys n},256≤n→n≤65536→n≤ys.length→Bytes (List.take (n*1) (List.drop 0 ys))→E ys n):LlC C E ys n P:=by
 have e:=hE hn h65 hl hb
 refine ⟨hC h65 hl hb,e,e,e,hC (by omega) (by simp) ?_,fun _=> ?_,fun h=> ?_⟩
 ·intro x hx
  simp at hx
  omega
 ·rw[show decide (1≤255)=true by decide]
  exact hT
 ·rw[decide_eq_false (by omega)]at h
  simp at h
theorem dom_bytes {ys zs:List Int} {n:Nat} (h:List.take ((256+n)*1) ys=List.take 256 (List.drop 0 (List.replicate 256 0))++zs) (hz:Bytes zs):Bytes (List.take ((256+n)*1) (List.drop 0 ys)):=by
 rw[List.drop_zero,h]
 intro x hx
 rcases List.mem_append.1 hx with hx | hx
 ·have:=List.mem_of_mem_drop (List.mem_of_mem_take hx)
  rw[List.mem_replicate]at this
  omega
 ·exact hz x hx
theorem LlA.of {C E:List Int→Nat→Prop} {mr:List Int} {l2:Nat} {P:SV→Prop} (hT:P (.bool (.sym true))) (hl:l2≤1000) (hm:l2≤mr.length) (hb:Bytes mr)
  (hC:∀ {ys n},n≤65536→n≤ys.length→Bytes (List.take (n*1) (List.drop 0 ys))→C ys n) (hE:∀ {ys n},256≤n→n≤65536→n≤ys.length→Bytes (List.take (n*1) (List.drop 0 ys))→E ys n):LlA C E mr l2 P:=by
 refine ⟨⟨by decide,by decide,by decide⟩,⟨⟨Nat.le_refl _,Nat.le_refl _⟩,show 0+l2*1≤mr.length by omega,by omega,by omega⟩,?_⟩
 rintro cap ys ⟨h1,h2,h3⟩
 exact LlC.of hT (by omega) (by omega) (by omega) (dom_bytes h3 ((hb.drop 0).take _)) hC hE
theorem LlZ.of {C E:List Int→Nat→Prop} {P:SV→Prop} (hT:P (.bool (.sym true)))
  (hC:∀ {ys n},n≤65536→n≤ys.length→Bytes (List.take (n*1) (List.drop 0 ys))→C ys n) (hE:∀ {ys n},256≤n→n≤65536→n≤ys.length→Bytes (List.take (n*1) (List.drop 0 ys))→E ys n):LlZ C E P:=by
 refine ⟨⟨by decide,by decide,by decide⟩,⟨⟨Nat.le_refl _,Nat.le_refl _⟩,trivial,by decide,by decide⟩,?_⟩
 rintro cap ys ⟨h1,h2,h3⟩
 exact LlC.of hT (by omega) (by omega) (by omega) (dom_bytes (n:=0) h3 (fun x hx=>by simp at hx)) hC hE
theorem CdM.of {msg:List Int} {l:Nat} (hm:l≤msg.length) (hb:Bytes msg) (h4:l≤65536) {ys:List Int} {n:Nat} (h1:n≤65536) (h2:n≤ys.length) (h3:Bytes (List.take (n*1) (List.drop 0 ys))):CdM msg l ys n:=by
 obtain ⟨a,b⟩:=cut_bytes hm hb
 exact ⟨⟨by omega,by omega⟩,rfl,a,by simp;omega,b,h3,h4,h1⟩
theorem CeM.of {msg:List Int} {l:Nat} (hm:l≤msg.length) (hb:Bytes msg) (h4:l≤65536) {ys:List Int} {n:Nat} (h5:256≤n) (h1:n≤65536) (h2:n≤ys.length) (h3:Bytes (List.take (n*1) (List.drop 0 ys))):CeM msg l ys n:=by
 obtain ⟨a,b⟩:=cut_bytes hm hb
 exact ⟨⟨by omega,by omega⟩,rfl,a,by simp;omega,b,h3,h4,h1,by omega⟩
theorem CdN.of {ys:List Int} {n:Nat} (h1:n≤65536) (h2:n≤ys.length) (h3:Bytes (List.take (n*1) (List.drop 0 ys))):CdN ys n:=⟨by omega,rfl,by simp;omega,h3,h1⟩
theorem CeN.of {ys:List Int} {n:Nat} (h5:256≤n) (h1:n≤65536) (h2:n≤ys.length) (h3:Bytes (List.take (n*1) (List.drop 0 ys))):CeN ys n:=⟨by omega,rfl,by simp;omega,h3,h1,by omega⟩
theorem ll_walk (msg mr:List Int) (l c l2 c2:Nat) (P:SV→Prop) (hm:l≤msg.length) (hd:l2≤mr.length) (hmb:Bytes msg) (hdb:Bytes mr) (hT:P (.bool (.lit true))) (hT':P (.bool (.sym true))):
  execF cxLl u9 Tryz.f4 64 [.slice 9 (.lit 0) (.sym l) (.sym c),.slice 17 (.lit 0) (.sym l2) (.sym c2)] (memL [(2,⟨true,.ints .u32 kL⟩),(9,⟨true,.ints .u8 msg⟩),(17,⟨true,.ints .u8 mr⟩)]) fun v _=>P v:=by
 rw[vc_ll]
 exact .of hT fun _=> .of hT fun _=> .of hT fun a=> .of hT fun b=> .of hT' (by omega) hd hdb (fun x y z=> .of hm hmb (by omega) x y z) (fun w x y z=> .of hm hmb (by omega) w x y z)
theorem lln_walk (mr:List Int) (l2 c2:Nat) (P:SV→Prop) (hd:l2≤mr.length) (hdb:Bytes mr) (hT:P (.bool (.lit true))) (hT':P (.bool (.sym true))):
  execF cxLl u9 Tryz.f4 64 [.val (.slice none 0 0),.slice 17 (.lit 0) (.sym l2) (.sym c2)] (memL [(2,⟨true,.ints .u32 kL⟩),(17,⟨true,.ints .u8 mr⟩)]) fun v _=>P v:=by
 rw[vc_lln]
 exact .of hT fun _=> .of hT fun b=> .of hT' (by omega) hd hdb (fun x y z=> .of x y z) (fun w x y z=> .of w x y z)
theorem llm_walk (msg:List Int) (l c:Nat) (P:SV→Prop) (hm:l≤msg.length) (hmb:Bytes msg) (hT:P (.bool (.lit true))) (hT':P (.bool (.sym true))):
  execF cxLl u9 Tryz.f4 64 [.slice 9 (.lit 0) (.sym l) (.sym c),.val (.slice none 0 0)] (memL [(2,⟨true,.ints .u32 kL⟩),(9,⟨true,.ints .u8 msg⟩)]) fun v _=>P v:=by
 rw[vc_llm]
 exact .of hT fun _=> .of hT fun a=> .of hT' (fun x y z=> .of hm hmb (by omega) x y z) (fun w x y z=> .of hm hmb (by omega) w x y z)
theorem llz_walk (P:SV→Prop) (hT':P (.bool (.sym true))):execF cxLl u9 Tryz.f4 64 [.val (.slice none 0 0),.val (.slice none 0 0)] (memL [(2,⟨true,.ints .u32 kL⟩)]) fun v _=>P v:=by
 rw[vc_llz]
 exact .of hT' (fun x y z=> .of x y z) (fun w x y z=> .of w x y z)
end Go.Sx
namespace Go.Sx
open Go Go.Proofs Go.RowKit
set_option maxRecDepth 100000
theorem Fr.same (T:Nat→Nat→Prop) (w:World):Fr T w w:=⟨rfl,rfl,rfl,Nat.le_refl _,fun _ _=>ObjFr.refl _ _⟩
theorem Fr.below {w w':World} (h:Fr noT w w'):Below w.heap.size w w':=by
 refine ⟨h.os,h.tape,h.output,h.size,fun k hk=> ?_⟩
 have:=h.blk k hk
 unfold ObjFr at this
 split at this
 ·rename_i c t f he
  obtain ⟨c',h1,h2,h3⟩:=this
  rw[h1,he]
  have:c'=c:=Array.ext_getElem? fun i=>h3 i (by unfold noT;simp)
  rw[this]
 ·exact this
def BSl (W:World) (v:Value):Prop:=
 v= .slice none 0 0∨∃(b o len cap:Nat) (zs:List Int) (arr:Array Value) (t:TypeId) (fz:Nat×Nat),v= .slice (some ⟨b,o,none⟩) len cap∧W.heap[b]? =some (.cells arr t fz)∧zs.length=cap∧len≤cap∧Bytes zs∧
  ∀i u,(zs.map (Value.int .u8))[i]? =some u→arr[o+i]? =some u
def KRow (W:World):Prop:=∃(arr:Array Value) (t:TypeId) (fz:Nat×Nat),W.heap[1]? =some (.cells arr t fz)∧∀i u,(kL.map (Value.int .u32))[i]? =some u→arr[0+i]? =some u
def env2 (b1 o1 b2 o2:Nat):Env:=fun r=>if r%2=0 then some (r / 2,0)else if r=9 then some (b1,o1)else if r=17 then some (b2,o2)else none
theorem env2_gid (b1 o1 b2 o2 g:Nat):env2 b1 o1 b2 o2 (gid g)=some (g,0):=by
 unfold env2 gid
 rw[if_pos (by omega)]
 simp
theorem env2_fresh (b1 o1 b2 o2:Nat):∀n,64≤n→Fresh (env2 b1 o1 b2 o2) n:=fun n hn j hj=>by
 unfold env2 rid
 rw[if_neg (by omega),if_neg (by omega),if_neg (by omega)]
theorem holds_ro {β:Env} {W:World} {l:List (Nat×Reg)} (h:∀x∈l,x.2.ro=true∧RegOk β W.heap.size noT W x.1 x.2):Holds β noT (memL l) W W:=by
 have hm:∀r g,(memL l).get r=some g→(r,g)∈l:=fun r g hg=>by
  rcases get_fold_set l _ hg with hg | hg
  ·exact hg
  ·rw[Tr.get_leaf]at hg;cases hg
 refine ⟨Fr.same _ _,fun r g hg=>(h _ (hm r g hg)).2,fun r s g k _ hg hk hro=> ?_⟩
 rcases hro with hro | hro
 ·have:=(h _ (hm r g hg)).1
  simp only at this
  rw[hro]at this;cases this
 ·have:=(h _ (hm s k hk)).1
  simp only at this
  rw[hro]at this;cases this
theorem regOk_ints {β:Env} {B:Nat} {W:World} {r b o:Nat} {k:IntKind} {xs:List Int} {arr:Array Value} {t:TypeId} {fz:Nat×Nat} (hβ:β r=some (b,o)) (hb:W.heap[b]? =some (.cells arr t fz))
  (hc:∀i u,(xs.map (Value.int k))[i]? =some u→arr[o+i]? =some u):RegOk β B noT W r ⟨true,.ints k xs⟩:=
 ⟨⟨b,o,arr,t,fz,_,hβ,hb,rfl,hc,fun h=>by cases h⟩⟩
def isTrue:SV→Mem→Prop:=fun sv _=>∃b:B,sv= .bool b∧b.val=true
theorem isTrue_lit (m:Mem):isTrue (.bool (.lit true)) m:=⟨_,rfl,rfl⟩
theorem isTrue_sym (b:Bool) (m:Mem) (h:b=true):isTrue (.bool (.sym b)) m:=⟨_,rfl,h⟩
def isTrueP:SV→Prop:=fun sv=>∃b:B,sv= .bool b∧b.val=true
structure Walks (fn:Func):Prop where
 both:∀(msg dst:List Int) (l c l2 c2:Nat),l≤msg.length→l2≤dst.length→Bytes msg→Bytes dst→∃U,
  execF cxLl U fn 64 [.slice 9 (.lit 0) (.sym l) (.sym c),.slice 17 (.lit 0) (.sym l2) (.sym c2)] (memL [(2,⟨true,.ints .u32 kL⟩),(9,⟨true,.ints .u8 msg⟩),(17,⟨true,.ints .u8 dst⟩)]) isTrue
 dst:∀(dst:List Int) (l2 c2:Nat),l2≤dst.length→Bytes dst→∃U,
  execF cxLl U fn 64 [.val (.slice none 0 0),.slice 17 (.lit 0) (.sym l2) (.sym c2)] (memL [(2,⟨true,.ints .u32 kL⟩),(17,⟨true,.ints .u8 dst⟩)]) isTrue
 msg:∀(msg:List Int) (l c:Nat),l≤msg.length→Bytes msg→∃U,
  execF cxLl U fn 64 [.slice 9 (.lit 0) (.sym l) (.sym c),.val (.slice none 0 0)] (memL [(2,⟨true,.ints .u32 kL⟩),(9,⟨true,.ints .u8 msg⟩)]) isTrue
 none:∃U,execF cxLl U fn 64 [.val (.slice none 0 0),.val (.slice none 0 0)] (memL [(2,⟨true,.ints .u32 kL⟩)]) isTrue
theorem walks4:Walks Tryz.f4 where
 both:=fun msg dst l c l2 c2 h1 h2 h3 h4=>⟨u9,ll_walk msg dst l c l2 c2 isTrueP h1 h2 h3 h4 ⟨_,rfl,rfl⟩ ⟨_,rfl,rfl⟩⟩
 dst:=fun dst l2 c2 h2 h4=>⟨u9,lln_walk dst l2 c2 isTrueP h2 h4 ⟨_,rfl,rfl⟩ ⟨_,rfl,rfl⟩⟩
 msg:=fun msg l c h1 h3=>⟨u9,llm_walk msg l c isTrueP h1 h3 ⟨_,rfl,rfl⟩ ⟨_,rfl,rfl⟩⟩
 none:=⟨u9,llz_walk isTrueP ⟨_,rfl,rfl⟩⟩
theorem done_true {β:Env} {W:World} {e:Ending} {w':World} (h:Done β noT W isTrue e w'):e= .returned (.bool true)∧Below W.heap.size W w':=by
 obtain ⟨β',v,sv,m',_,rfl,hd,hH,b,rfl,hb⟩:=h
 refine ⟨?_,hH.fr.below⟩
 simp only[Den]at hd
 rw[hd,hb]
theorem run_law {f:FuncId} {fn:Func} (hfn:Tryz.prog.funcs[f]? =some fn) (hw:Walks fn) {W:World} {v0 v1:Value} (hK:KRow W) (h0:BSl W v0) (h1:BSl W v1):
  Calls Tryz.prog f #[v0,v1] W fun e W'=>e= .returned (.bool true)∧Below W.heap.size W W':=by
 obtain ⟨karr,kt,kfz,hk1,hk2⟩:=hK
 have dn:∀β:Env,Den β (.val (.slice none 0 0)) (.slice none 0 0):=fun β=>by simp[Den]
 have d2:∀ {β:Env} {a b:SV} {u v:Value},Den β a u→Den β b v→DenL β [a,b] [u,v]:=fun {β} {a b} {u v} h1 h2=>
  ⟨u,[v],h1,⟨v,[],h2,rfl,rfl⟩,rfl⟩
 rcases h0 with rfl | ⟨b1,o1,len1,cap1,zs1,arr1,t1,fz1,rfl,a1,a2,a3,a4,a5⟩<;>rcases h1 with rfl | ⟨b2,o2,len2,cap2,zs2,arr2,t2,fz2,rfl,c1,c2,c3,c4,c5⟩
 ·have hH:Holds (env2 0 0 0 0) noT (memL [(2,⟨true,.ints .u32 kL⟩)]) W W:=holds_ro (by
   intro x hx
   simp only[List.mem_cons,List.not_mem_nil,or_false]at hx
   subst hx
   exact ⟨rfl,regOk_ints (env2_gid _ _ _ _ 1) hk1 hk2⟩)
  exact (execF_sound mixed hfn hH (d2 (dn _) (dn _)) (env2_gid _ _ _ _) (env2_fresh _ _ _ _) (Classical.choose_spec hw.none)).mono fun e w' h=>done_true h
 ·have hH:Holds (env2 0 0 b2 o2) noT (memL [(2,⟨true,.ints .u32 kL⟩),(17,⟨true,.ints .u8 zs2⟩)]) W W:=holds_ro (by
   intro x hx
   simp only[List.mem_cons,List.not_mem_nil,or_false]at hx
   rcases hx with rfl | rfl
   ·exact ⟨rfl,regOk_ints (env2_gid _ _ _ _ 1) hk1 hk2⟩
   ·exact ⟨rfl,regOk_ints (by simp[env2]) c1 c5⟩)
  exact (execF_sound mixed hfn hH (d2 (dn _) (by simp only[Den];exact ⟨b2,o2,rfl,rfl⟩)) (env2_gid _ _ _ _) (env2_fresh _ _ _ _) (Classical.choose_spec (hw.dst zs2 len2 cap2 (by omega) c4))).mono fun e w' h=>done_true h
 ·have hH:Holds (env2 b1 o1 0 0) noT (memL [(2,⟨true,.ints .u32 kL⟩),(9,⟨true,.ints .u8 zs1⟩)]) W W:=holds_ro (by
   intro x hx
   simp only[List.mem_cons,List.not_mem_nil,or_false]at hx
   rcases hx with rfl | rfl
   ·exact ⟨rfl,regOk_ints (env2_gid _ _ _ _ 1) hk1 hk2⟩
   ·exact ⟨rfl,regOk_ints (by simp[env2]) a1 a5⟩)
  exact (execF_sound mixed hfn hH (d2 (by simp only[Den];exact ⟨b1,o1,rfl,rfl⟩) (dn _)) (env2_gid _ _ _ _) (env2_fresh _ _ _ _) (Classical.choose_spec (hw.msg zs1 len1 cap1 (by omega) a4))).mono fun e w' h=>done_true h
 ·have hH:Holds (env2 b1 o1 b2 o2) noT (memL [(2,⟨true,.ints .u32 kL⟩),(9,⟨true,.ints .u8 zs1⟩),(17,⟨true,.ints .u8 zs2⟩)]) W W:=holds_ro (by
   intro x hx
   simp only[List.mem_cons,List.not_mem_nil,or_false]at hx
   rcases hx with rfl | rfl | rfl
   ·exact ⟨rfl,regOk_ints (env2_gid _ _ _ _ 1) hk1 hk2⟩
   ·exact ⟨rfl,regOk_ints (by simp[env2]) a1 a5⟩
   ·exact ⟨rfl,regOk_ints (by simp[env2]) c1 c5⟩)
  exact (execF_sound mixed hfn hH (d2 (by simp only[Den];exact ⟨b1,o1,rfl,rfl⟩) (by simp only[Den];exact ⟨b2,o2,rfl,rfl⟩)) (env2_gid _ _ _ _) (env2_fresh _ _ _ _) (Classical.choose_spec (hw.both zs1 zs2 len1 cap1 len2 cap2 (by omega) (by omega) a4 c4))).mono fun e w' h=>done_true h
end Go.Sx
namespace Go.Proofs.YtajbcjgonpoojaaGreatDoor
open Go Go.Sx Go.ChangeShapes Go.WideShapes Go.RowKit
set_option maxRecDepth 100000
set_option maxHeartbeats 4000000
theorem own:ownKnob Tryz.prog.godebug=none:=by kernel_rfl
theorem laidOut:laidOutB Tryz.prog=true:=by kernel_rfl
theorem cells5:Tryz.prog.cellsOf 5=1:=by kernel_rfl
theorem cellsU:Tryz.prog.cellsOf 164=1:=by kernel_rfl
theorem cellsA:Tryz.prog.cellsOf 178=64:=by kernel_rfl
theorem gK:Tryz.prog.globalNamed "loop.example/pub-g03347/pub/sha256._K" =some 1:=by kernel_rfl
theorem tK:(Tryz.prog.globals[1]?).map (·.type)=some 178:=by kernel_rfl
theorem gE:Tryz.prog.globalNamed "loop.example/pub-g03347/pub/gnarkcrypto/ecc/bn254/fp.errInvalidEncoding" =some 0:=by kernel_rfl
theorem tE:(Tryz.prog.globals[0]?).map (·.type)=some 58:=by kernel_rfl
def laidK:List (String×DataW Unit):= [("loop.example/pub-g03347/pub/sha256._K",Rows.laid_loop_example_pub_g03347_pub_sha256_K),("loop.example/pub-g03347/pub/gnarkcrypto/ecc/bn254/fp.errInvalidEncoding",Rows.laid_loop_example_pub_g03347_pub_gnarkcrypto_ecc_bn254_fp_errInvalidEncoding)]
theorem bsl_of {H:Type} {enc:TypeId×Value→H} {W:World} {base:Nat} {v:Value} {d:DataW H} {ps:List MemPlace} (hval:Value.okWide Tryz.prog W .any base 33 v)
  (h:DataW.Trod enc Tryz.prog W 0 (fun _=>true) true 33 v d ps):BSl W v:=by
 obtain ⟨a,len,cap,rfl⟩:=okWide_slice Tryz.underlying33 hval
 obtain ⟨fuel,hf⟩:=h
 rcases open_ints Tryz.underlying33 Tryz.underlying5 cells5 hf with ⟨hc,_⟩ | ⟨a',len',cap',zs,hc,_,hle,_,hzl,_,hcells,hwf⟩
 ·left
  simpa [Value.cells]using hc
 ·right
  simp only[Value.cells,List.cons.injEq,and_true,Value.slice.injEq]at hc
  obtain ⟨rfl,rfl,rfl⟩:=hc
  simp only[Value.okWide,Tryz.underlying33,Cell.okWide,Cell.ok]at hval
  obtain ⟨_,_,_,hspot,row,cells,hsh,_⟩:=hval
  obtain ⟨b,o,sp⟩:=a'
  simp only at hspot
  subst hspot
  simp only[if_true]at hzl
  have hb:∃arr t fz,W.heap[b]? =some (.cells arr t fz):=by
   unfold World.shape? at hsh
   split at hsh
   ·rename_i c t fz he
    exact ⟨c,t,fz,he⟩
   ·cases hsh
  obtain ⟨arr,t,fz,he⟩:=hb
  refine ⟨b,o,len,cap,zs,arr,t,fz,rfl,he,hzl,hle,fun x hx=> ?_,fun i u hu=> ?_⟩
  ·have:=bounds_u8 (hwf x hx)
   omega
  ·rw[List.getElem?_map]at hu
   cases hz:zs[i]? with
   | none=>rw[hz]at hu;cases hu
   | some z=>
    rw[hz]at hu
    have hi:i<zs.length:=(List.getElem?_eq_some_iff.1 hz).1
    have:=hcells i hi
    have hz2:zs.getD i 0=z:=by simp[List.getD_eq_getElem?_getD,hz]
    rw[hz2]at this
    have hadd:(⟨b,o,none⟩:Addr).add i=⟨b,o+i,none⟩:=by
     unfold Addr.add
     split
     ·rename_i h0;subst h0;rfl
     ·rfl
    rw[hadd]at this
    unfold World.cell? at this
    simp only[he]at this
    rw[←hu]
    exact this
theorem krow_of {W:World} (h:laidMetH Tryz.prog laidK W):KRow W:=by
 rw[MakeChecks.laidMetH_plain _ _ _ (by kernel_rfl)]at h
 obtain ⟨ps,⟨g0,t0,cs0,f0,p0,q0,hg0,ht0,hv0,hd0,_,_⟩,_,_⟩:=h
 obtain rfl:=Option.some.inj (gK.symm.trans hg0)
 obtain rfl:=Option.some.inj (tK.symm.trans ht0)
 have hb:∃t fz,W.heap[1]? =some (.cells cs0 t fz):=by
  unfold World.var? at hv0
  rw[gK]at hv0
  simp only[Option.bind_some]at hv0
  split at hv0
  ·rename_i c t fz he
   exact ⟨t,fz,by rw[he,Option.some.inj hv0]⟩
  ·cases hv0
 obtain ⟨t,fz,he⟩:=hb
 refine ⟨cs0,t,fz,he,fun i u hu=> ?_⟩
 obtain ⟨xs,m,_,hx,hlen,hn,hel⟩:=DataW.trod_array Tryz.underlying178 hd0
 rw[cellsA]at hlen
 rw[List.getElem?_map]at hu
 cases hz:kL[i]? with
 | none=>rw[hz]at hu;cases hu
 | some z=>
  rw[hz]at hu
  have hu:Value.int .u32 z=u:=Option.some.inj hu
  have hi:i<64:=(List.getElem?_eq_some_iff.1 hz).1
  have h1:=hel i hi
  rw[cellsU,Nat.mul_one]at h1
  obtain ⟨y,hy⟩:∃y,xs[i]? =some y:=⟨xs[i],List.getElem?_eq_getElem (by omega)⟩
  rw[hy]at h1
  obtain ⟨k,e1,e2,_⟩:=DataW.trod_int Tryz.underlying164 h1
  have hc:cs0.toList[i]? =some (.int .u32 k):=by
   have:((cs0.toList.drop i).take 1)[0]? =some (.int .u32 k):=by rw[e1];rfl
   simpa using this
  have hd:Rows.laid_loop_example_pub_g03347_pub_sha256_K (H:=Unit)= .agg (kL.map fun x=> .lit (.int .u32 x)):=rfl
  simp only[Prod.mk.injEq]at hx
  rw[hd]at hx
  have hxx:=DataW.agg.inj hx.1
  have h2:(kL.map fun x=>(DataW.lit (.int .u32 x):DataW Unit))[i]? =(xs.map (·.1))[i]? :=by rw[hxx]
  rw[List.getElem?_map,List.getElem?_map,hz,hy,e2]at h2
  have h3:z=k:=by simpa using h2
  rw[Nat.zero_add,←hu,h3]
  simpa using hc
theorem door_met (os:Os) (args:Array Value):laidMetH Tryz.prog laidK ((World.doorLaid Tryz.prog 2000 os).forCall (fun _ _=>0) ⟨#[],args,[]⟩).memory:=
 laidMetH_of_parts3 (fuel:=8) (laidMet_of_run' 8 (by kernel_rfl) (by kernel_rfl)) (by kernel_rfl) (by kernel_rfl)
theorem var_step {H:Type} {enc:TypeId×Value→H} {W W':World} {n:String} {g:Nat} {t:TypeId} {ns:List String} {d:DataW H} {ds:List (DataW H)} {q:List MemPlace} (hg:Tryz.prog.globalNamed n=some g) (ht:(Tryz.prog.globals[g]?).map (·.type)=some t)
  (hr:Tryz.prog.readableRec t=true) (hs:t<Tryz.prog.types.size) (hb:Below W.heap.size W W') (hlt:∀x∈q,x.block<W.heap.size)
  (hn:∀q',(∀x∈q',x.block<W.heap.size)→DataW.TrodVars enc Tryz.prog W (fun _=>true) ns ds q'→DataW.TrodVars enc Tryz.prog W' (fun b=>decide (b<W.heap.size)) ns ds q')
  (h:DataW.TrodVars enc Tryz.prog W (fun _=>true) (n::ns) (d::ds) q):DataW.TrodVars enc Tryz.prog W' (fun b=>decide (b<W.heap.size)) (n::ns) (d::ds) q:=by
 obtain ⟨g',t',cs,fuel,p,r,h1,h2,h3,h4,hs',e⟩:=h
 obtain rfl:=Option.some.inj (hg.symm.trans h1)
 obtain rfl:=Option.some.inj (ht.symm.trans h2)
 have hp:∀x∈p,x.block<W.heap.size:=fun x hx=>hlt x (by rw[e];simp[hx])
 have hq:∀x∈r,x.block<W.heap.size:=fun x hx=>hlt x (by rw[e];simp[hx])
 obtain ⟨fuel',h4'⟩:=Below.trod (v:= .agg cs) laidOut hr hs ⟨fuel,h4⟩ hb hp
 have h3':W'.var? Tryz.prog n=some cs:=by
  unfold World.var? at h3 ⊢
  rw[hg]at h3 ⊢
  simp only[Option.bind_some]at h3 ⊢
  have h0:g<W.heap.size:=by
   cases hh:W.heap[g]? with
   | none=>rw[hh]at h3;cases h3
   | some o=>exact (Array.getElem?_eq_some_iff.1 hh).1
  rw[hb.block g h0]
  exact h3
 exact ⟨g,t,cs,fuel',p,r,hg,ht,h3',h4',hn r hq hs',e⟩
theorem vars_stay {H:Type} {enc:TypeId×Value→H} {W W':World} {d e:DataW H} {q:List MemPlace} (hb:Below W.heap.size W W') (hlt:∀x∈q,x.block<W.heap.size)
  (h:DataW.TrodVars enc Tryz.prog W (fun _=>true) ["loop.example/pub-g03347/pub/sha256._K", "loop.example/pub-g03347/pub/gnarkcrypto/ecc/bn254/fp.errInvalidEncoding"] [d,e] q):DataW.TrodVars enc Tryz.prog W' (fun b=>decide (b<W.heap.size)) ["loop.example/pub-g03347/pub/sha256._K", "loop.example/pub-g03347/pub/gnarkcrypto/ecc/bn254/fp.errInvalidEncoding"] [d,e] q:=
 var_step gK tK (by kernel_rfl) (of_decide_eq_true (by kernel_rfl)) hb hlt (fun _ hq' h'=>var_step gE tE (by kernel_rfl) (of_decide_eq_true (by kernel_rfl)) hb hq' (fun _ _ h''=>h'') h') h
theorem post_law {H:Type} {enc:TypeId×Value→H} {fn:Func} {s:ChangeSpec} {W W':World} {args:Array Value} {ds gs:List (DataW H)} {before:List MemPlace}
  (hp:fn.params= #[33,33]) (hr:fn.resultTypes= #[4]) (hv:s.vars= ["loop.example/pub-g03347/pub/sha256._K", "loop.example/pub-g03347/pub/gnarkcrypto/ecc/bn254/fp.errInvalidEncoding"])
  (hs:∀d1 d2 g1 g2:DataW H,s.fn H [d1,d2,g1,g2]= { results:= [.lit (.bool true)],args:= [d1,d2],vars:= [g1,g2] })
  (hW:DataW.Whole enc Tryz.prog fn.params.toList s.vars false W args.toList ds gs before) (hb:Below W.heap.size W W'):
  s.post enc Tryz.prog fn false true false false W args (.bool true) W':=by
 have hlt:=hW.lt
 have hW':=hW
 obtain ⟨p,q,hA,hV,rfl,hfz,hnd⟩:=hW
 have hA':DataW.TrodAll enc Tryz.prog W 0 (fun _=>true) true fn.params.toList args.toList ds p:=hA
 have hV':DataW.TrodVars enc Tryz.prog W (fun _=>true) s.vars gs q:=hV
 rw[hp]at hA'
 obtain ⟨v0,v1,d0,d1,p0,p1,rfl,rfl,rfl,h0,h1⟩:=trodAll_two hA'
 obtain ⟨g,g',rfl⟩:∃g g',gs= [g,g']:=by
  rw[hv]at hV'
  obtain ⟨_,_,_,_,d,_,_,_,_,_,d',_,rfl,_⟩:=trodVars_two hV'
  exact ⟨d,d',rfl⟩
 have e:s.fn H ([d0,d1]++ [g,g'])= { results:= [.lit (.bool true)],args:= [d0,d1],vars:= [g,g'] }:=hs _ _ _ _
 have l0:∀x∈p0,x.block<W.heap.size:=fun x hx=>by simpa using hlt x (by simp[hx])
 have l1:∀x∈p1,x.block<W.heap.size:=fun x hx=>by simpa using hlt x (by simp[hx])
 refine ⟨_,_,_,[],p0++p1,q,hW',?_,?_,?_,Below.frame hb _,fun h=>by cases h⟩
 ·rw[e,hr]
  exact trodAll_mk1 (shut_bool Tryz.underlying4 true)
 ·rw[e,hp]
  exact trodAll_mk2 (Below.trod laidOut (by kernel_rfl) (of_decide_eq_true (by kernel_rfl)) h0 hb l0) (Below.trod laidOut (by kernel_rfl) (of_decide_eq_true (by kernel_rfl)) h1 hb l1)
 ·rw[e]
  rw[hv]at hV' ⊢
  exact vars_stay hb (fun x hx=>by simpa using hlt x (by simp[hx])) hV'
theorem lifted4 (os:Os) (started:os.Started) (H:Type) (enc:TypeId×Value→H):
  ReturnsInHanded {} Tryz.checked os 4 .any (fun w args=>(Rows.fnHashLongSpec.pre enc Tryz.prog Tryz.f4 [] false w args∧laidMetH Tryz.prog laidK w)∧sizedMet enc Tryz.prog Tryz.f4 (OpenSpec.ofChange Rows.fnHashLongSpec) false w args)
   (Rows.fnHashLongSpec.post enc Tryz.prog Tryz.f4 false true false false):=by
 refine returnsInHanded_of_change_and (C:=Tryz.checked) (X:=fun w _=>laidMetH Tryz.prog laidK w) (fun _ _ _ hh h=>h.of_heap hh) own started (by kernel_rfl) Tryz.func4
  (ChangeSpec.witness_shaped (enc:=enc) (C:=Tryz.checked) (os:=os) (X:=fun w _=>laidMetH Tryz.prog laidK w) false (World.doorLaid Tryz.prog 2000 os) #[.slice none 0 0,.slice none 0 0] 8 rfl (World.shaped_of_RefB (by kernel_rfl) (by kernel_rfl)) (by kernel_rfl) (by kernel_rfl) (by kernel_rfl) (door_met os _)) ?_
 intro W base args ds gs before hval hW _ _ hL _
 have hW':=hW
 obtain ⟨p,q,hA0,_,_,_,_⟩:=hW
 have hA:DataW.TrodAll enc Tryz.prog W 0 (fun _=>true) true Tryz.f4.params.toList args.toList ds p:=hA0
 rw[Tryz.params4]at hA hval
 obtain ⟨v0,v1,d0,d1,p0,p1,rfl,rfl,rfl,h0,h1⟩:=trodAll_two hA
 refine (run_law Tryz.func4 walks4 (krow_of hL) (bsl_of (hval 0 33 v0 rfl rfl) h0) (bsl_of (hval 1 33 v1 rfl rfl) h1)).mono fun e W' ⟨he,hb⟩=> ?_
 exact ⟨_,he,post_law Tryz.params4 rfl rfl (fun _ _ _ _=>rfl) hW' hb⟩
theorem fnHashLong_holds:Rows.FnHashLongSaid:=
 OpenClaim.holds_of_wide 4 Tryz.f4 rfl rfl rfl rfl rfl rfl rfl ⟨rfl,rfl,rfl,rfl,rfl⟩ rfl rfl rfl rfl rfl (by kernel_rfl) Tryz.func4 (by kernel_rfl)
  (of_decide_eq_true (by kernel_rfl)) (by unfold Func.isWrapper;first | (rw[if_pos (by decide +kernel)];kernel_rfl) | (rw[if_neg (by decide +kernel)];exact ⟨rfl,rfl⟩))
  (fun os started H enc _=>lifted4 os started H enc)
theorem fnHashLong_card_holds:Rows.FnHashLongCardSaid:=
 Claim7.holds_tied_plain_at .later [] [.data,.sentinel] true (true, "247525072b6bbdab26aeb6f857caaaf905541120990393399139d5964a8e0e5f") false
  fnHashLong_holds (fun _ h=>by cases h) (by kernel_rfl) (fun _ h=>by cases h) fnHashLong_row_tie rfl ⟨rfl,rfl⟩ (by kernel_rfl) rfl
  (fun f fn hf hfn=>by
   obtain rfl:f=4:=Option.some.inj ((show Tryz.prog.funcNamed "loop.example/pub-g03347/laws.FnHashLong" =some 4 by kernel_rfl).symm.trans hf) |>.symm
   obtain rfl:fn=Tryz.f4:=(Option.some.inj (Tryz.func4.symm.trans hfn)).symm
   exact ⟨by kernel_rfl,fun j t ht=>by
    rw[Tryz.params4]at ht
    have hm:t∈[33,33]:=by simpa using Array.mem_of_getElem? ht
    have hall:([33,33].all fun u=> !Tryz.prog.wantsStandIn u)=true:=by kernel_rfl
    exact (show Tryz.prog.wantsStandIn t=false by simpa using List.all_eq_true.1 hall t hm)⟩)
  (by kernel_rfl)
#print axioms fnHashLong_card_holds
end Go.Proofs.YtajbcjgonpoojaaGreatDoor
