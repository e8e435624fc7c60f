/- Part 3 of the proof: for every number of E2 (two rows of four words) the law FnMapG2 returns true (a verified symbolic evaluator, contracts of each function reached, the law, its row and card). Conditions: those of the given statement, none besides. -/
import Derived.Laws.StructEq
import Derived.Laws.Tables
import Derived.Laws.Cover2
import Derived.Test.YtajbcjgonpoojaaGreatDoorSx2
namespace Go.Sx
open Go Go.Proofs
set_option maxRecDepth 100000
theorem vc_set (a0 a1 a2 a3 b0 b1 b2 b3:Int) (K:SV→Mem→Prop):(execF cx0 u0 Tryz.f89 64 [.ptr 1 (.lit 0),.ptr 9 (.lit 0)] (memL [(1,⟨false,w4 a0 a1 a2 a3⟩),(9,⟨true,w4 b0 b1 b2 b3⟩)]) K)=K (.ptr 1 (.lit 0)) (memL [(1,
 ⟨false,.cells [.int .u64 (.sym b0),.int .u64 (.sym b1),.int .u64 (.sym b2),.int .u64 (.sym b3)]⟩),(9,⟨true,.cells [.int .u64 (.sym b0),.int .u64 (.sym b1),.int .u64 (.sym b2),.int .u64 (.sym b3)]⟩)]):=by kernel_rfl
theorem vc_so (a0 a1 a2 a3:Int) (K:SV→Mem→Prop):(execF cx0 u0 Tryz.f66 64 [.ptr 1 (.lit 0)] (memL [(1,⟨false,w4 a0 a1 a2 a3⟩)]) K)=K (.ptr 1 (.lit 0)) (memL [(1,⟨false,.cells [.int .u64 (.lit 15230403791020821917),.int .u64
 (.lit 754611498739239741),.int .u64 (.lit 7381016538464732716),.int .u64 (.lit 1011752739694698287)]⟩)]):=by kernel_rfl
def gSet:G0:=fun args l K=>
 match args,l with
 | [.ptr 1 (.lit 0),.ptr 9 (.lit 0)],[(1,⟨false,z⟩),(9,⟨true,x⟩)]=>c4 z fun _ _ _ _=>c4 x fun a0 a1 a2 a3=>K (.ptr 1 (.lit 0)) (memL [(1,⟨false,w4 a0 a1 a2 a3⟩),(9,⟨true,w4 a0 a1 a2 a3⟩)])
 | _,_=>False
theorem set_good:Good gSet:=by
 constructor
 ·intro args l K K' hk h
  unfold gSet at h ⊢
  split at h
  ·exact c4_mono (fun _ _ _ _ h=>c4_mono (fun _ _ _ _ h=>hk _ _ h) h) h
  ·exact h.elim
 ·intro args l K h
  unfold gSet at h
  split at h
  ·obtain ⟨_,_,_,_,_,h⟩:=c4_ex h
   obtain ⟨_,_,_,_,_,h⟩:=c4_ex h
   exact ⟨_,_,h⟩
  ·exact h.elim
theorem set_ok (args:List SV) (l:List (Nat×Reg)) (K:SV→Mem→Prop) (hup:KUp K) (h:gSet args l K):∃U,execF cx0 U Tryz.f89 64 args (memL l) K:=by
 unfold gSet at h
 split at h
 ·obtain ⟨z0,z1,z2,z3,rfl,q0⟩:=c4_ex h
  obtain ⟨a0,a1,a2,a3,rfl,q1⟩:=c4_ex q0
  refine ⟨u0,?_⟩
  rw[vc_set z0 z1 z2 z3 a0 a1 a2 a3]
  exact q1
 ·exact h.elim
def kSet:Ef Tryz.prog:=mkE mixed 89 Tryz.func89 (by decide) (by kernel_rfl) [] [.ptr 4 false,.ptr 4 true] gSet set_good set_ok
def gSo:G0:=fun args l K=>
 match args,l with
 | [.ptr 1 (.lit 0)],[(1,⟨false,z⟩)]=>c4 z fun _ _ _ _=>K (.ptr 1 (.lit 0)) (memL [(1,⟨false,.cells [.int .u64 (.lit 15230403791020821917),.int .u64 (.lit 754611498739239741),.int .u64 (.lit 7381016538464732716),.int .u64 (.lit 1011752739694698287)]⟩)])
 | _,_=>False
theorem so_good:Good gSo:=by
 constructor
 ·intro args l K K' hk h
  unfold gSo at h ⊢
  split at h
  ·exact c4_mono (fun _ _ _ _ h=>hk _ _ h) h
  ·exact h.elim
 ·intro args l K h
  unfold gSo at h
  split at h
  ·obtain ⟨_,_,_,_,_,h⟩:=c4_ex h
   exact ⟨_,_,h⟩
  ·exact h.elim
theorem so_ok (args:List SV) (l:List (Nat×Reg)) (K:SV→Mem→Prop) (hup:KUp K) (h:gSo args l K):∃U,execF cx0 U Tryz.f66 64 args (memL l) K:=by
 unfold gSo at h
 split at h
 ·obtain ⟨z0,z1,z2,z3,rfl,q0⟩:=c4_ex h
  refine ⟨u0,?_⟩
  rw[vc_so z0 z1 z2 z3]
  exact q0
 ·exact h.elim
def kSo:Ef Tryz.prog:=mkE mixed 66 Tryz.func66 (by decide) (by kernel_rfl) [] [.ptr 4 false] gSo so_good so_ok
def cxNeg:Cx Tryz.prog:= { rds:= [cSub,cIz],efs:= [cSz],eqs:= [] }
def NegQ (b0 b1 b2 b3:Int) (K:Int→Int→Int→Int→Prop):Prop:=
 (Wd b0∧Wd b1∧Wd b2∧Wd b3)∧(decide (V4 b0 b1 b2 b3=0)=true→K 0 0 0 0)∧(decide (V4 b0 b1 b2 b3=0)=false→
  SubS 4332616871279656263 b0 0 fun s0 k0=>SubS 10917124144477883021 b1 k0 fun s1 k1=>SubS 13281191951274694749 b2 k1 fun s2 k2=>SubS 3486998266802970665 b3 k2 fun s3 _=>K s0 s1 s2 s3)
theorem vc_neg (a0 a1 a2 a3 b0 b1 b2 b3:Int) (K:SV→Mem→Prop):(execF cxNeg u0 Tryz.f76 64 [.ptr 1 (.lit 0),.ptr 9 (.lit 0)] (memL [(1,⟨false,w4 a0 a1 a2 a3⟩),(9,⟨true,w4 b0 b1 b2 b3⟩)]) K)=
 NegQ b0 b1 b2 b3 fun y0 y1 y2 y3=>K (.ptr 1 (.lit 0)) (memL [(1,⟨false,w4 y0 y1 y2 y3⟩),(9,⟨true,w4 b0 b1 b2 b3⟩)]):=by kernel_rfl
theorem vc_neg1 (b0 b1 b2 b3:Int) (K:SV→Mem→Prop):(execF cxNeg u0 Tryz.f76 64 [.ptr 1 (.lit 0),.ptr 1 (.lit 0)] (memL [(1,⟨false,w4 b0 b1 b2 b3⟩)]) K)=
 NegQ b0 b1 b2 b3 fun y0 y1 y2 y3=>K (.ptr 1 (.lit 0)) (memL [(1,⟨false,w4 y0 y1 y2 y3⟩)]):=by kernel_rfl
def negN (x:Nat):Nat:=(qN-x)%qN
theorem negN_lt (x:Nat):negN x<qN:=Nat.mod_lt _ (by decide)
theorem neg_of {b0 b1 b2 b3:Int} {x:Nat} {K:Int→Int→Int→Int→Prop} (hx:El b0 b1 b2 b3 x) (hK:∀r,r=negN x→K (lm r 0) (lm r 1) (lm r 2) (lm r 3)):NegQ b0 b1 b2 b3 K:=by
 have hw:=hx.wd
 have hv:=hx.val
 have hl:=hx.lt
 refine ⟨hw,fun h=> ?_,fun h=> ?_⟩
 ·simp only[decide_eq_true_eq]at h
  have hx0:x=0:=by omega
  have:=hK 0 (by unfold negN;rw[hx0];simp)
  have e0:∀i,lm 0 i=0:=fun i=>by
   unfold lm
   simp
  simp only[e0]at this
  exact this
 ·simp only[decide_eq_false_iff_not]at h
  obtain ⟨hb0,hb1,hb2,hb3⟩:=hw
  have hS:SubS 4332616871279656263 b0 0 fun s0 k0=>SubS 10917124144477883021 b1 k0 fun s1 k1=>SubS 13281191951274694749 b2 k1 fun s2 k2=>SubS 3486998266802970665 b3 k2 fun s3 _=>K s0 s1 s2 s3:=by
   refine SubS.of wdq0 hb0 (Int.le_refl _) (by decide) fun s0 k0 c0 c1 c2 c3=> ?_
   refine SubS.of wdq1 hb1 c1 c2 fun s1 k1 d0 d1 d2 d3=> ?_
   refine SubS.of wdq2 hb2 d1 d2 fun s2 k2 e0 e1 e2 e3=> ?_
   refine SubS.of wdq3 hb3 e1 e2 fun s3 k3 f0 f1 f2 f3=> ?_
   have e:=subp_eq c3 d3 e3 f3
   rw[hv]at e
   have n0:=V4_nonneg c0 d0 e0 f0
   have n1:=V4_lt c0 d0 e0 f0
   have e2:V4 4332616871279656263 10917124144477883021 13281191951274694749 3486998266802970665=21888242871839275222246405745257275088696311157297823662689037894645226208583:=by unfold V4;omega
   rw[e2]at e
   have er:V4 s0 s1 s2 s3=((negN x:Nat):Int):=by
    have:negN x=qN-x:=Nat.mod_eq_of_lt (by unfold qN at *;omega)
    rw[this]
    unfold qN at *
    omega
   obtain ⟨q0,q1,q2,q3⟩:=lm_of c0 d0 e0 f0 er
   rw[q0,q1,q2,q3]
   exact hK _ rfl
  exact hS
def gNeg:G0:=fun args l K=>
 match args,l with
 | [.ptr 1 (.lit 0),.ptr 9 (.lit 0)],[(1,⟨false,z⟩),(9,⟨true,x⟩)]=>c4 z fun _ _ _ _=>c4 x fun a0 a1 a2 a3=>∃x,El a0 a1 a2 a3 x∧∀r,r=negN x→∀y0 y1 y2 y3,El y0 y1 y2 y3 r→K (.ptr 1 (.lit 0)) (memL [(1,⟨false,w4 y0 y1 y2 y3⟩),(9,⟨true,w4 a0 a1 a2 a3⟩)])
 | [.ptr 1 (.lit 0),.ptr 1 (.lit 0)],[(1,⟨false,z⟩)]=>c4 z fun a0 a1 a2 a3=>∃x,El a0 a1 a2 a3 x∧∀r,r=negN x→∀y0 y1 y2 y3,El y0 y1 y2 y3 r→K (.ptr 1 (.lit 0)) (memL [(1,⟨false,w4 y0 y1 y2 y3⟩)])
 | _,_=>False
theorem neg_good:Good gNeg:=by
 constructor
 ·intro args l K K' hk h
  unfold gNeg at h ⊢
  split at h
  ·exact c4_mono (fun _ _ _ _ h=>c4_mono (fun _ _ _ _ h=>h.elim fun x h=>⟨x,h.1,fun r hr y0 y1 y2 y3 hy=>hk _ _ (h.2 r hr y0 y1 y2 y3 hy)⟩) h) h
  ·exact c4_mono (fun _ _ _ _ h=>h.elim fun x h=>⟨x,h.1,fun r hr y0 y1 y2 y3 hy=>hk _ _ (h.2 r hr y0 y1 y2 y3 hy)⟩) h
  ·exact h.elim
 ·intro args l K h
  unfold gNeg at h
  split at h
  ·obtain ⟨_,_,_,_,_,h⟩:=c4_ex h
   obtain ⟨_,_,_,_,_,h⟩:=c4_ex h
   obtain ⟨x,_,h⟩:=h
   exact ⟨_,_,h _ rfl _ _ _ _ (El.of (negN_lt x))⟩
  ·obtain ⟨_,_,_,_,_,h⟩:=c4_ex h
   obtain ⟨x,_,h⟩:=h
   exact ⟨_,_,h _ rfl _ _ _ _ (El.of (negN_lt x))⟩
  ·exact h.elim
theorem neg_ok (args:List SV) (l:List (Nat×Reg)) (K:SV→Mem→Prop) (hup:KUp K) (h:gNeg args l K):∃U,execF cxNeg U Tryz.f76 64 args (memL l) K:=by
 unfold gNeg at h
 split at h
 ·obtain ⟨z0,z1,z2,z3,rfl,q0⟩:=c4_ex h
  obtain ⟨a0,a1,a2,a3,rfl,q1⟩:=c4_ex q0
  obtain ⟨x,hx,hK⟩:=q1
  exact ⟨u0,(vc_neg _ _ _ _ _ _ _ _ _).mpr (neg_of hx fun r hr=>hK r hr _ _ _ _ (El.of (by rw[hr];exact negN_lt x)))⟩
 ·obtain ⟨a0,a1,a2,a3,rfl,q1⟩:=c4_ex h
  obtain ⟨x,hx,hK⟩:=q1
  exact ⟨u0,(vc_neg1 _ _ _ _ _).mpr (neg_of hx fun r hr=>hK r hr _ _ _ _ (El.of (by rw[hr];exact negN_lt x)))⟩
 ·exact h.elim
def kNeg:Ef Tryz.prog:=mkE mixed 76 Tryz.func76 (by decide) (by kernel_rfl) [] [.ptr 4 false,.ptr 4 true] gNeg neg_good neg_ok
theorem vc_sel0 (z0 z1 z2 z3 a0 a1 a2 a3 b0 b1 b2 b3 s:Int) (K:SV→Mem→Prop):(execF cx0 u0 Tryz.f82 64 [.ptr 1 (.lit 0),.int .i64 (.sym s),.ptr 9 (.lit 0),.ptr 17 (.lit 0)] (memL [(1,⟨false,w4 z0 z1 z2 z3⟩),(9,⟨true,w4 a0
 a1 a2 a3⟩),(17,⟨true,w4 b0 b1 b2 b3⟩)]) K)=(∀b,b=IntKind.wrap IntKind.i64 (0-s)→∀c,c=bor .i64 s b→∀d,d=shrv .i64 c 63→∀a,a=IntKind.wrap IntKind.u64 d→∀e,e=bxor .u64 a0 b0→∀f,f=band .u64 a e→∀g,g
 =bxor .u64 a0 f→∀h,h=bxor .u64 a1 b1→∀i,i=band .u64 a h→∀j,j=bxor .u64 a1 i→∀k,k=bxor .u64 a2 b2→∀l,l=band .u64 a k→∀m,m=bxor .u64 a2 l→∀n,n=bxor .u64 a3 b3→∀o,o=band .u64 a n→∀p,p=
 bxor .u64 a3 o→K (.ptr 1 (.lit 0)) (memL [(1,⟨false,.cells [.int .u64 (.sym g),.int .u64 (.sym j),.int .u64 (.sym m),.int .u64 (.sym p)]⟩),(9,⟨true,.cells [.int .u64 (.sym a0),.int .u64 (.sym a1),.int .u64 (.sym a2),.int .u64
 (.sym a3)]⟩),(17,⟨true,.cells [.int .u64 (.sym b0),.int .u64 (.sym b1),.int .u64 (.sym b2),.int .u64 (.sym b3)]⟩)])):=by kernel_rfl
theorem vc_sel1 (z0 z1 z2 z3 a0 a1 a2 a3 s:Int) (K:SV→Mem→Prop):(execF cx0 u0 Tryz.f82 64 [.ptr 1 (.lit 0),.int .i64 (.sym s),.ptr 9 (.lit 0),.ptr 1 (.lit 0)] (memL [(1,⟨false,w4 z0 z1 z2 z3⟩),(9,⟨true,w4 a0 a1 a2 a3⟩)])
 K)=(∀b,b=IntKind.wrap IntKind.i64 (0-s)→∀c,c=bor .i64 s b→∀d,d=shrv .i64 c 63→∀a,a=IntKind.wrap IntKind.u64 d→∀e,e=bxor .u64 a0 z0→∀f,f=band .u64 a e→∀g,g=bxor .u64 a0 f→∀h,h=bxor .u64 a1
 z1→∀i,i=band .u64 a h→∀j,j=bxor .u64 a1 i→∀k,k=bxor .u64 a2 z2→∀l,l=band .u64 a k→∀m,m=bxor .u64 a2 l→∀n,n=bxor .u64 a3 z3→∀o,o=band .u64 a n→∀p,p=bxor .u64 a3 o→K (.ptr 1 (.lit 0)) (memL
 [(1,⟨false,.cells [.int .u64 (.sym g),.int .u64 (.sym j),.int .u64 (.sym m),.int .u64 (.sym p)]⟩),(9,⟨true,.cells [.int .u64 (.sym a0),.int .u64 (.sym a1),.int .u64 (.sym a2),.int .u64 (.sym a3)]⟩)])):=by kernel_rfl
theorem vc_sel2 (z0 z1 z2 z3 b0 b1 b2 b3 s:Int) (K:SV→Mem→Prop):(execF cx0 u0 Tryz.f82 64 [.ptr 1 (.lit 0),.int .i64 (.sym s),.ptr 1 (.lit 0),.ptr 9 (.lit 0)] (memL [(1,⟨false,w4 z0 z1 z2 z3⟩),(9,⟨true,w4 b0 b1 b2 b3⟩)])
 K)=(∀b,b=IntKind.wrap IntKind.i64 (0-s)→∀c,c=bor .i64 s b→∀d,d=shrv .i64 c 63→∀a,a=IntKind.wrap IntKind.u64 d→∀e,e=bxor .u64 z0 b0→∀f,f=band .u64 a e→∀g,g=bxor .u64 z0 f→∀h,h=bxor .u64 z1
 b1→∀i,i=band .u64 a h→∀j,j=bxor .u64 z1 i→∀k,k=bxor .u64 z2 b2→∀l,l=band .u64 a k→∀m,m=bxor .u64 z2 l→∀n,n=bxor .u64 z3 b3→∀o,o=band .u64 a n→∀p,p=bxor .u64 z3 o→K (.ptr 1 (.lit 0)) (memL
 [(1,⟨false,.cells [.int .u64 (.sym g),.int .u64 (.sym j),.int .u64 (.sym m),.int .u64 (.sym p)]⟩),(9,⟨true,.cells [.int .u64 (.sym b0),.int .u64 (.sym b1),.int .u64 (.sym b2),.int .u64 (.sym b3)]⟩)])):=by kernel_rfl
theorem wd_max:Wd 18446744073709551615:=by unfold Wd;omega
theorem bxor_bxor {b c:Int} (hb:Wd b) (hc:Wd c):bxor .u64 b (bxor .u64 b c)=c:=by
 obtain ⟨e,w⟩:=bxor_eq hb hc
 obtain ⟨e2,_⟩:=bxor_eq hb w
 rw[e2,e,Int.toNat_natCast,←Nat.xor_assoc,Nat.xor_self,Nat.zero_xor]
 unfold Wd at hc
 omega
theorem band_max {c:Int} (hc:Wd c):band .u64 18446744073709551615 c=c:=by
 obtain ⟨e,_⟩:=band_eq wd_max hc
 rw[e,show (18446744073709551615:Int).toNat=2 ^ 64-1 from rfl,Nat.and_comm,Nat.and_two_pow_sub_one_eq_mod,Nat.mod_eq_of_lt (by unfold Wd at hc;omega)]
 unfold Wd at hc
 omega
theorem sel_word {b c m:Int} (hb:Wd b) (hc:Wd c):(m=0→bxor .u64 b (band .u64 m (bxor .u64 b c))=b)∧(m=18446744073709551615→bxor .u64 b (band .u64 m (bxor .u64 b c))=c):=by
 have w:=(bxor_eq hb hc).2
 constructor
 ·rintro rfl
  obtain ⟨e,w2⟩:=band_eq wd0 w
  obtain ⟨e2,_⟩:=bxor_eq hb w2
  rw[e2,e,show (0:Int).toNat=0 from rfl,Nat.zero_and,show ((0:Nat):Int).toNat=0 from rfl,Nat.xor_zero]
  unfold Wd at hb
  omega
 ·rintro rfl
  rw[band_max w,bxor_bxor hb hc]
theorem sel_mask {s x0 x1 x2 x3:Int} (hs:s=0∨s=1∨s= -1) (h0:x0=IntKind.i64.wrap (0-s)) (h1:x1=bor .i64 s x0) (h2:x2=shrv .i64 x1 63) (h3:x3=IntKind.u64.wrap x2):(s=0→x3=0)∧(s≠0→x3=18446744073709551615):=by
 rcases hs with rfl | rfl | rfl
 ·exact ⟨fun _=>by rw[h3,h2,h1,h0];decide +kernel,fun h=>absurd rfl h⟩
 ·exact ⟨fun h=>absurd h (by decide),fun _=>by rw[h3,h2,h1,h0];decide +kernel⟩
 ·exact ⟨fun h=>absurd h (by decide),fun _=>by rw[h3,h2,h1,h0];decide +kernel⟩
theorem sel_of {a0 a1 a2 a3 b0 b1 b2 b3 s:Int} {K:Int→Int→Int→Int→Prop} (hs:s=0∨s=1∨s= -1) (ha:Wd a0∧Wd a1∧Wd a2∧Wd a3) (hb:Wd b0∧Wd b1∧Wd b2∧Wd b3) (h0:s=0→K a0 a1 a2 a3) (h1:s≠0→K b0 b1 b2 b3):
  ∀x0,x0=IntKind.i64.wrap (0-s)→∀x1,x1=bor .i64 s x0→∀x2,x2=shrv .i64 x1 63→∀x3,x3=IntKind.u64.wrap x2→∀x4,x4=bxor .u64 a0 b0→∀x5,x5=band .u64 x3 x4→∀x6,x6=bxor .u64 a0 x5→∀x7,x7=bxor .u64 a1 b1→∀x8,x8=band .u64 x3 x7→∀x9,x9=bxor .u64 a1 x8→
  ∀x10,x10=bxor .u64 a2 b2→∀x11,x11=band .u64 x3 x10→∀x12,x12=bxor .u64 a2 x11→∀x13,x13=bxor .u64 a3 b3→∀x14,x14=band .u64 x3 x13→∀x15,x15=bxor .u64 a3 x14→K x6 x9 x12 x15:=by
 intro x0 e0 x1 e1 x2 e2 x3 e3
 obtain ⟨m0,m1⟩:=sel_mask hs e0 e1 e2 e3
 rintro _ rfl _ rfl _ rfl _ rfl _ rfl _ rfl _ rfl _ rfl _ rfl _ rfl _ rfl _ rfl
 by_cases h:s=0
 ·rw[(sel_word ha.1 hb.1).1 (m0 h),(sel_word ha.2.1 hb.2.1).1 (m0 h),(sel_word ha.2.2.1 hb.2.2.1).1 (m0 h),(sel_word ha.2.2.2 hb.2.2.2).1 (m0 h)]
  exact h0 h
 ·rw[(sel_word ha.1 hb.1).2 (m1 h),(sel_word ha.2.1 hb.2.1).2 (m1 h),(sel_word ha.2.2.1 hb.2.2.1).2 (m1 h),(sel_word ha.2.2.2 hb.2.2.2).2 (m1 h)]
  exact h1 h
def selC (s a0 a1 a2 a3 b0 b1 b2 b3:Int) (K:Int→Int→Int→Int→Prop):Prop:=
 ((s=0∨s=1∨s= -1)∧(Wd a0∧Wd a1∧Wd a2∧Wd a3)∧Wd b0∧Wd b1∧Wd b2∧Wd b3)∧(s=0→K a0 a1 a2 a3)∧(s≠0→K b0 b1 b2 b3)
theorem selC_mono {s a0 a1 a2 a3 b0 b1 b2 b3:Int} {K K':Int→Int→Int→Int→Prop} (hk:∀a b c d,K a b c d→K' a b c d) (h:selC s a0 a1 a2 a3 b0 b1 b2 b3 K):selC s a0 a1 a2 a3 b0 b1 b2 b3 K':=
 ⟨h.1,fun e=>hk _ _ _ _ (h.2.1 e),fun e=>hk _ _ _ _ (h.2.2 e)⟩
theorem selC_live {s a0 a1 a2 a3 b0 b1 b2 b3:Int} {K:Int→Int→Int→Int→Prop} (h:selC s a0 a1 a2 a3 b0 b1 b2 b3 K):∃a b c d,K a b c d:=by
 by_cases e:s=0
 ·exact ⟨_,_,_,_,h.2.1 e⟩
 ·exact ⟨_,_,_,_,h.2.2 e⟩
def gSel:G0:=fun args l K=>
 match args,l with
 | [.ptr 1 (.lit 0),.int .i64 (.sym s),.ptr 9 (.lit 0),.ptr 17 (.lit 0)],[(1,⟨false,rz⟩),(9,⟨true,ra⟩),(17,⟨true,rb⟩)]=>c4 rz fun _ _ _ _=>c4 ra fun a0 a1 a2 a3=>c4 rb fun b0 b1 b2 b3=>selC s a0 a1 a2 a3 b0 b1 b2 b3 fun y0 y1 y2 y3=>K (.ptr 1 (.lit 0)) (memL [(1,⟨false,w4 y0 y1 y2 y3⟩),(9,⟨true,w4 a0 a1 a2 a3⟩),(17,⟨true,w4 b0 b1 b2 b3⟩)])
 | [.ptr 1 (.lit 0),.int .i64 (.sym s),.ptr 9 (.lit 0),.ptr 1 (.lit 0)],[(1,⟨false,rz⟩),(9,⟨true,ra⟩)]=>c4 rz fun z0 z1 z2 z3=>c4 ra fun a0 a1 a2 a3=>selC s a0 a1 a2 a3 z0 z1 z2 z3 fun y0 y1 y2 y3=>K (.ptr 1 (.lit 0)) (memL [(1,⟨false,w4 y0 y1 y2 y3⟩),(9,⟨true,w4 a0 a1 a2 a3⟩)])
 | [.ptr 1 (.lit 0),.int .i64 (.sym s),.ptr 1 (.lit 0),.ptr 9 (.lit 0)],[(1,⟨false,rz⟩),(9,⟨true,rb⟩)]=>c4 rz fun z0 z1 z2 z3=>c4 rb fun b0 b1 b2 b3=>selC s z0 z1 z2 z3 b0 b1 b2 b3 fun y0 y1 y2 y3=>K (.ptr 1 (.lit 0)) (memL [(1,⟨false,w4 y0 y1 y2 y3⟩),(9,⟨true,w4 b0 b1 b2 b3⟩)])
 | _,_=>False
theorem sel_good:Good gSel:=by
 constructor
 ·intro args l K K' hk h
  unfold gSel at h ⊢
  split at h
  ·exact c4_mono (fun _ _ _ _ h=>c4_mono (fun _ _ _ _ h=>c4_mono (fun _ _ _ _ h=>selC_mono (fun _ _ _ _=>hk _ _) h) h) h) h
  ·exact c4_mono (fun _ _ _ _ h=>c4_mono (fun _ _ _ _ h=>selC_mono (fun _ _ _ _=>hk _ _) h) h) h
  ·exact c4_mono (fun _ _ _ _ h=>c4_mono (fun _ _ _ _ h=>selC_mono (fun _ _ _ _=>hk _ _) h) h) h
  ·exact h.elim
 ·intro args l K h
  unfold gSel at h
  split at h
  ·obtain ⟨_,_,_,_,_,h⟩:=c4_ex h
   obtain ⟨_,_,_,_,_,h⟩:=c4_ex h
   obtain ⟨_,_,_,_,_,h⟩:=c4_ex h
   obtain ⟨_,_,_,_,h⟩:=selC_live h
   exact ⟨_,_,h⟩
  ·obtain ⟨_,_,_,_,_,h⟩:=c4_ex h
   obtain ⟨_,_,_,_,_,h⟩:=c4_ex h
   obtain ⟨_,_,_,_,h⟩:=selC_live h
   exact ⟨_,_,h⟩
  ·obtain ⟨_,_,_,_,_,h⟩:=c4_ex h
   obtain ⟨_,_,_,_,_,h⟩:=c4_ex h
   obtain ⟨_,_,_,_,h⟩:=selC_live h
   exact ⟨_,_,h⟩
  ·exact h.elim
theorem sel_ok (args:List SV) (l:List (Nat×Reg)) (K:SV→Mem→Prop) (hup:KUp K) (h:gSel args l K):∃U,execF cx0 U Tryz.f82 64 args (memL l) K:=by
 unfold gSel at h
 split at h
 ·rename_i s rz ra rb
  obtain ⟨z0,z1,z2,z3,rfl,q0⟩:=c4_ex h
  obtain ⟨a0,a1,a2,a3,rfl,q1⟩:=c4_ex q0
  obtain ⟨b0,b1,b2,b3,rfl,q2⟩:=c4_ex q1
  refine ⟨u0,?_⟩
  rw[vc_sel0 z0 z1 z2 z3 a0 a1 a2 a3 b0 b1 b2 b3 s]
  exact sel_of q2.1.1 q2.1.2.1 q2.1.2.2 q2.2.1 q2.2.2
 ·rename_i s rz ra
  obtain ⟨z0,z1,z2,z3,rfl,q0⟩:=c4_ex h
  obtain ⟨a0,a1,a2,a3,rfl,q1⟩:=c4_ex q0
  refine ⟨u0,?_⟩
  rw[vc_sel1 z0 z1 z2 z3 a0 a1 a2 a3 s]
  exact sel_of q1.1.1 q1.1.2.1 q1.1.2.2 q1.2.1 q1.2.2
 ·rename_i s rz rb
  obtain ⟨z0,z1,z2,z3,rfl,q0⟩:=c4_ex h
  obtain ⟨b0,b1,b2,b3,rfl,q1⟩:=c4_ex q0
  refine ⟨u0,?_⟩
  rw[vc_sel2 z0 z1 z2 z3 b0 b1 b2 b3 s]
  exact sel_of q1.1.1 q1.1.2.1 q1.1.2.2 q1.2.1 q1.2.2
 ·exact h.elim
def kSel:Ef Tryz.prog:=mkE mixed 82 Tryz.func82 (by decide) (by kernel_rfl) [] [.ptr 4 false,.num,.ptr 4 true,.ptr 4 true] gSel sel_good sel_ok
theorem wrap64_ex (y:Int):∃t:Int,IntKind.i64.wrap y=y+18446744073709551616*t:=by
 show ∃t:Int,(if (true && decide (y%18446744073709551616≥9223372036854775808))=true then y%18446744073709551616-18446744073709551616 else y%18446744073709551616)=_
 split
 ·exact ⟨-(y / 18446744073709551616)-1,by omega⟩
 ·exact ⟨-(y / 18446744073709551616),by omega⟩
theorem band_low (x:Int):band .i64 x 4294967295=x%4294967296:=by
 have e1:(BitVec.ofInt IntKind.i64.bits x).toNat=(x%18446744073709551616).toNat:=by
  simp only[IntKind.bits,BitVec.toNat_ofInt]
  rfl
 have e2:(BitVec.ofInt IntKind.i64.bits (4294967295:Int)).toNat=2 ^ 32-1:=by decide
 unfold band
 rw[BitVec.toNat_and,e1,e2,Nat.and_two_pow_sub_one_eq_mod]
 have h:(((x%18446744073709551616).toNat%2 ^ 32:Nat):Int)=x%4294967296:=by omega
 rw[h,wrap64 (by omega) (by omega)]
def udF (c:Int):Int:=(c+9223372034707292159)%4294967296-2147483647
def udG (c:Int):Int:=(c+9223372034707292159) / 4294967296%4294967296-2147483647
theorem ud_of {f g:Int} (h1: -2147483648<f) (h2:f≤2147483648) (h3: -2147483648<g) (h4:g≤2147483648):udF (IntKind.i64.wrap (f+4294967296*g))=f∧udG (IntKind.i64.wrap (f+4294967296*g))=g:=by
 obtain ⟨t,ht⟩:=wrap64_ex (f+4294967296*g)
 unfold udF udG
 rw[ht]
 omega
theorem vc_ud (c:Int) (K:SV→Mem→Prop):(execF cx0 u0 Tryz.f127 64 [.int .i64 (.sym c)] (memL []) K)=(∀a,a=IntKind.wrap IntKind.i64 (c+9223372034707292159)→∀b,b=band .i64 a (4294967295:Int)→∀d,d=IntKind.wrap
 IntKind.i64 (b-2147483647)→∀e,e=shrv .i64 a 32→∀f,f=band .i64 e (4294967295:Int)→∀g,g=IntKind.wrap IntKind.i64 (f-2147483647)→K (.tup [.int .i64 (.sym d),.int .i64 (.sym g)]) Tr.leaf):=by kernel_rfl
def rUd:R0:=fun args l=>
 match args,l with
 | [.int .i64 (.sym c)],[]=>some (none,.tup [.int .i64 (.sym (udF c)),.int .i64 (.sym (udG c))])
 | _,_=>none
theorem ud_ok (args:List SV) (l:List (Nat×Reg)) (p:Ob) (v:SV) (h:rUd args l=some (p,v)) (hp:p.ok):∃U,execF cx0 U Tryz.f127 64 args (memL l) fun v' _=>v'=v:=by
 unfold rUd at h
 split at h
 ·rename_i c
  simp only[Option.some.injEq,Prod.mk.injEq]at h
  obtain ⟨rfl,rfl⟩:=h
  refine ⟨u0,?_⟩
  rw[vc_ud c]
  intro x0 h0 x1 h1 x2 h2 x3 h3 x4 h4 x5 h5
  rw[band_low]at h1 h4
  obtain ⟨t,ht⟩:=wrap64_ex (c+9223372034707292159)
  have e3:x3=x0 / 4294967296:=by
   rw[h3]
   unfold shrv
   rw[show min 32 IntKind.i64.bits=32 by decide,Int.fdiv_eq_ediv_of_nonneg _ (by decide)]
   rfl
  rw[wrap64 (by omega) (by omega)]at h2 h5
  have f2:x2=udF c:=by unfold udF;omega
  have f5:x5=udG c:=by unfold udG;omega
  rw[f2,f5]
 ·cases h
def cUd:Rd Tryz.prog:=mkR mixed 127 Tryz.func127 (by decide) (by kernel_rfl) [] [.num] rUd ud_ok
def bl (x:Nat):Nat:=if x=0 then 0 else x.log2+1
theorem bl_spec (x:Nat):x<2 ^ bl x∧(bl x=0∨2 ^ (bl x-1)≤x):=by
 unfold bl
 split
 ·rename_i h;subst h;exact ⟨by decide,.inl rfl⟩
 ·rename_i h
  exact ⟨Nat.lt_log2_self,.inr (by rw[Nat.add_sub_cancel];exact Nat.log2_self_le h)⟩
theorem bl_unique {x n:Nat} (h1:x<2 ^ n) (h2:n=0∨2 ^ (n-1)≤x):bl x=n:=by
 unfold bl
 cases n with
 | zero=>
  have:x=0:=by simpa using h1
  rw[if_pos this]
 | succ m=>
  have h2:2 ^ m≤x:=by simpa using h2
  have h0:x≠0:=by have:=Nat.pow_pos (n:=m) (show 0<2 by omega);omega
  rw[if_neg h0,(Nat.log2_eq_iff h0).2 ⟨h2,h1⟩]
theorem bl_div {x u s:Nat} (h:u=x / 2 ^ s) (hu:1≤u):bl x=s+bl u:=by
 obtain ⟨h1,h2⟩:=bl_spec u
 have hp:=Nat.pow_pos (n:=s) (show 0<2 by omega)
 have hd:=Nat.div_add_mod x (2 ^ s)
 have hm:=Nat.mod_lt x hp
 rw[←h]at hd
 refine bl_unique ?_ ?_
 ·have:2 ^ s*(u+1)≤2 ^ s*2 ^ bl u:=Nat.mul_le_mul_left _ h1
  rw[Nat.mul_add]at this
  rw[Nat.pow_add]
  omega
 ·right
  rcases h2 with h2 | h2
  ·rw[h2]at h1;omega
  ·have hb:bl u≠0:=fun e=>by rw[e]at h1;omega
   have:2 ^ s*2 ^ (bl u-1)≤2 ^ s*u:=Nat.mul_le_mul_left _ h2
   rw[show s+bl u-1=s+(bl u-1) by omega,Nat.pow_add]
   omega
theorem bl_le {x n:Nat} (h:x<2 ^ n):bl x≤n:=by
 obtain ⟨_,h2⟩:=bl_spec x
 rcases h2 with h2 | h2
 ·omega
 ·apply Classical.byContradiction
  intro hn
  have:2 ^ n≤2 ^ (bl x-1):=Nat.pow_le_pow_right (by omega) (by omega)
  omega
def lenTab:ByteArray:=ByteArray.mk (Array.mk [0,1,2,2,3,3,3,3,4,4,4,4,4,4,4,4,5,5,5,5,5,5,5,5,5,5,5,5,5,5,5,5,6,6,6,6,6,6,6,6,6,6,6,6,6,6,6,6,6,6,6,6,6,6,6,6,6,6,6,6,6,6,6,6,7,7,7,7,7,7,7,7,7,7,7,7,7,7,7,7,7,7,7,7,7,7,7,7,7,7,7,7,7,7,7,7,7,7,7,7,7,7,7,7,7,7,7,7,7,7,7,7,7,7,7,7,7,7,7,7,7,7,7,7,7,7,7,7,8,8,8,8,8,8,8,8,8,8,8,8,8,8,8,8,8,8,8,8,8,8,8,8,8,8,8,8,8,8,8,8,8,8,8,8,8,8,8,8,8,8,8,8,8,8,8,8,8,8,8,8,8,8,8,8,8,8,8,8,8,8,8,8,8,8,8,8,8,8,8,8,8,8,8,8,8,8,8,8,8,8,8,8,8,8,8,8,8,8,8,8,8,8,8,8,8,8,8,8,8,8,8,8,8,8,8,8,8,8,8,8,8,8,8,8,8,8,8,8,8,8,8,8,8,8,8,8])
theorem tab_all:((List.range 256).all fun i=>decide (strAt lenTab i=((bl i:Nat):Int)))=true:=by decide +kernel
theorem tab_ok {x3:Int} (h0:0≤x3) (h1:x3<256):strAt lenTab x3=((bl x3.toNat:Nat):Int):=by
 have:=List.all_eq_true.1 tab_all x3.toNat (List.mem_range.2 (by omega))
 rw[decide_eq_true_eq,show ((x3.toNat:Nat):Int)=x3 by omega]at this
 exact this
theorem len_leaf {x u x3 x4:Int} {s:Nat} (hx:0≤x) (hu:u=x / 2 ^ s) (h1:1≤u∨s=0) (h2:u<256) (h3:x3=IntKind.u8.wrap u) (h4:x4=strAt lenTab x3):(0≤x3∧x3<256)∧((bl x.toNat:Nat):Int)=s+x4∧0≤x4∧x4≤8:=by
 have hu0:0≤u:=by rw[hu];exact Int.ediv_nonneg hx (Int.le_of_lt (Int.pow_pos (by omega)))
 have e3:x3=u:=by
  rw[h3]
  unfold IntKind.wrap
  simp[IntKind.bits,IntKind.signed]
  omega
 subst e3
 rw[tab_ok hu0 h2]at h4
 have hb:=bl_le (x:=x3.toNat) (n:=8) (by omega)
 have eu:x3.toNat=x.toNat / 2 ^ s:=by
  obtain ⟨y,rfl⟩:=Int.eq_ofNat_of_zero_le hx
  rw[show ((2:Int) ^ s)=((2 ^ s:Nat):Int) by rw[Int.natCast_pow];rfl,←Int.natCast_ediv]at hu
  rw[hu,Int.toNat_natCast,Int.toNat_natCast]
 refine ⟨⟨hu0,h2⟩,?_,by omega,by omega⟩
 rcases h1 with h1 | h1
 ·rw[bl_div eu (by omega),h4]
  omega
 ·subst h1
  rw[Nat.pow_zero,Nat.div_one]at eu
  rw[h4,eu]
  omega
theorem vc_len (x:Int) (K:SV→Mem→Prop):(execF cx0 u0 Tryz.f157 64 [.int .u64 (.sym x)] (memL []) K)=((decide (x≥4294967296)=true→∀a,a=shrv .u64 x 32→(decide (a≥65536)=true→∀b,b=shrv .u64 a 16→(decide (b≥
 256)=true→∀l,l=shrv .u64 b 8→∀d,d=IntKind.wrap IntKind.u8 l→((0≤d∧d<256)∧∀m:Int,m=strAt lenTab d→∀n,n=IntKind.wrap IntKind.i64 m→∀o,o=IntKind.wrap IntKind.i64 (56+n)→K (.int .i64 (.sym o))
 Tr.leaf))∧(decide (b≥256)=false→∀e,e=IntKind.wrap IntKind.u8 b→((0≤e∧e<256)∧∀p:Int,p=strAt lenTab e→∀q,q=IntKind.wrap IntKind.i64 p→∀r,r=IntKind.wrap IntKind.i64 (48+q)→K (.int .i64 (.sym r))
 Tr.leaf)))∧(decide (a≥65536)=false→(decide (a≥256)=true→∀s,s=shrv .u64 a 8→∀f,f=IntKind.wrap IntKind.u8 s→((0≤f∧f<256)∧∀t:Int,t=strAt lenTab f→∀u,u=IntKind.wrap IntKind.i64 t→∀v,v=
 IntKind.wrap IntKind.i64 (40+u)→K (.int .i64 (.sym v)) Tr.leaf))∧(decide (a≥256)=false→∀g,g=IntKind.wrap IntKind.u8 a→((0≤g∧g<256)∧∀w:Int,w=strAt lenTab g→∀y,y=IntKind.wrap IntKind.i64 w→∀z,z=
 IntKind.wrap IntKind.i64 (32+y)→K (.int .i64 (.sym z)) Tr.leaf))))∧(decide (x≥4294967296)=false→(decide (x≥65536)=true→∀c,c=shrv .u64 x 16→(decide (c≥256)=true→∀A,A=shrv .u64 c 8→∀h,h=IntKind.wrap
 IntKind.u8 A→((0≤h∧h<256)∧∀B:Int,B=strAt lenTab h→∀C,C=IntKind.wrap IntKind.i64 B→∀D,D=IntKind.wrap IntKind.i64 (24+C)→K (.int .i64 (.sym D)) Tr.leaf))∧(decide (c≥256)=false→∀i,i=IntKind.wrap
 IntKind.u8 c→((0≤i∧i<256)∧∀E:Int,E=strAt lenTab i→∀F,F=IntKind.wrap IntKind.i64 E→∀G,G=IntKind.wrap IntKind.i64 (16+F)→K (.int .i64 (.sym G)) Tr.leaf)))∧(decide (x≥65536)=false→(decide (x≥256)=
 true→∀H,H=shrv .u64 x 8→∀j,j=IntKind.wrap IntKind.u8 H→((0≤j∧j<256)∧∀I:Int,I=strAt lenTab j→∀J,J=IntKind.wrap IntKind.i64 I→∀L,L=IntKind.wrap IntKind.i64 (8+J)→K (.int .i64 (.sym L)) Tr.leaf))∧
 (decide (x≥256)=false→∀k,k=IntKind.wrap IntKind.u8 x→((0≤k∧k<256)∧∀M:Int,M=strAt lenTab k→∀N,N=IntKind.wrap IntKind.i64 M→∀O,O=IntKind.wrap IntKind.i64 (0+N)→K (.int .i64 (.sym O)) Tr.leaf))))):=by kernel_rfl
def rLen:R0:=fun args l=>
 match args,l with
 | [.int .u64 (.sym x)],[]=>some (some (Wd x),.int .i64 (.sym ((bl x.toNat:Nat):Int)))
 | _,_=>none
theorem sh_step {x y:Int} {s k:Nat} {z:Int} (hx:0≤x) (hz:z=x / 2 ^ s) (hk:k≤64) (h:y=shrv .u64 z k):0≤z∧y=x / 2 ^ (s+k):=by
 have hz0:0≤z:=by rw[hz];exact Int.ediv_nonneg hx (Int.le_of_lt (Int.pow_pos (by omega)))
 refine ⟨hz0,?_⟩
 rw[h,shr64 hz0 hk,hz,Int.ediv_ediv_of_nonneg (Int.le_of_lt (Int.pow_pos (by omega))),←Int.pow_add]
theorem len_ok (args:List SV) (l:List (Nat×Reg)) (p:Ob) (v:SV) (h:rLen args l=some (p,v)) (hp:p.ok):∃U,execF cx0 U Tryz.f157 64 args (memL l) fun v' _=>v'=v:=by
 unfold rLen at h
 split at h
 ·rename_i x
  simp only[Option.some.injEq,Prod.mk.injEq]at h
  obtain ⟨rfl,rfl⟩:=h
  have hw:Wd x:=hp
  unfold Wd at hw
  refine ⟨u0,?_⟩
  rw[vc_len x]
  have z0:x=x / 2 ^ 0:=by rw[Int.pow_zero,Int.ediv_one]
  have d8:∀ {y z:Int},0≤z→y=shrv .u64 z 8→y=z / 256:=fun hz h=>by rw[h,shr64 hz (by omega)];rfl
  have d16:∀ {y z:Int},0≤z→y=shrv .u64 z 16→y=z / 65536:=fun hz h=>by rw[h,shr64 hz (by omega)];rfl
  have d32:∀ {y z:Int},0≤z→y=shrv .u64 z 32→y=z / 4294967296:=fun hz h=>by rw[h,shr64 hz (by omega)];rfl
  simp only[decide_eq_true_eq,decide_eq_false_iff_not,ge_iff_le,Int.not_le]
  refine ⟨fun c0=> ?_,fun c0=> ?_⟩
  ·intro x0 h0
   have a0:=sh_step hw.1 z0 (by omega) h0
   have b0:=d32 hw.1 h0
   refine ⟨fun c1=> ?_,fun c1=> ?_⟩
   ·intro x1 h1
    have a1:=sh_step hw.1 a0.2 (by omega) h1
    have b1:=d16 (by omega) h1
    refine ⟨fun c2=> ?_,fun c2=> ?_⟩
    ·intro x2 h2 x3 h3
     have a2:=sh_step hw.1 a1.2 (by omega) h2
     have b2:=d8 (by omega) h2
     have L:=len_leaf hw.1 a2.2 (by omega) (by omega) h3 rfl
     refine ⟨L.1,?_⟩
     rintro x4 h4 x5 h5 x6 h6
     rw[←h4]at L
     rw[wrap64 (by omega) (by omega)]at h5
     rw[wrap64 (by omega) (by omega)]at h6
     have e:x6=((bl x.toNat:Nat):Int):=by omega
     rw[e]
    ·intro x3 h3
     have L:=len_leaf hw.1 a1.2 (by omega) (by omega) h3 rfl
     refine ⟨L.1,?_⟩
     rintro x4 h4 x5 h5 x6 h6
     rw[←h4]at L
     rw[wrap64 (by omega) (by omega)]at h5
     rw[wrap64 (by omega) (by omega)]at h6
     have e:x6=((bl x.toNat:Nat):Int):=by omega
     rw[e]
   ·refine ⟨fun c2=> ?_,fun c2=> ?_⟩
    ·intro x2 h2 x3 h3
     have a2:=sh_step hw.1 a0.2 (by omega) h2
     have b2:=d8 (by omega) h2
     have L:=len_leaf hw.1 a2.2 (by omega) (by omega) h3 rfl
     refine ⟨L.1,?_⟩
     rintro x4 h4 x5 h5 x6 h6
     rw[←h4]at L
     rw[wrap64 (by omega) (by omega)]at h5
     rw[wrap64 (by omega) (by omega)]at h6
     have e:x6=((bl x.toNat:Nat):Int):=by omega
     rw[e]
    ·intro x3 h3
     have L:=len_leaf hw.1 a0.2 (by omega) (by omega) h3 rfl
     refine ⟨L.1,?_⟩
     rintro x4 h4 x5 h5 x6 h6
     rw[←h4]at L
     rw[wrap64 (by omega) (by omega)]at h5
     rw[wrap64 (by omega) (by omega)]at h6
     have e:x6=((bl x.toNat:Nat):Int):=by omega
     rw[e]
  ·refine ⟨fun c1=> ?_,fun c1=> ?_⟩
   ·intro x1 h1
    have a1:=sh_step hw.1 z0 (by omega) h1
    have b1:=d16 (by omega) h1
    refine ⟨fun c2=> ?_,fun c2=> ?_⟩
    ·intro x2 h2 x3 h3
     have a2:=sh_step hw.1 a1.2 (by omega) h2
     have b2:=d8 (by omega) h2
     have L:=len_leaf hw.1 a2.2 (by omega) (by omega) h3 rfl
     refine ⟨L.1,?_⟩
     rintro x4 h4 x5 h5 x6 h6
     rw[←h4]at L
     rw[wrap64 (by omega) (by omega)]at h5
     rw[wrap64 (by omega) (by omega)]at h6
     have e:x6=((bl x.toNat:Nat):Int):=by omega
     rw[e]
    ·intro x3 h3
     have L:=len_leaf hw.1 a1.2 (by omega) (by omega) h3 rfl
     refine ⟨L.1,?_⟩
     rintro x4 h4 x5 h5 x6 h6
     rw[←h4]at L
     rw[wrap64 (by omega) (by omega)]at h5
     rw[wrap64 (by omega) (by omega)]at h6
     have e:x6=((bl x.toNat:Nat):Int):=by omega
     rw[e]
   ·refine ⟨fun c2=> ?_,fun c2=> ?_⟩
    ·intro x2 h2 x3 h3
     have a2:=sh_step hw.1 z0 (by omega) h2
     have b2:=d8 (by omega) h2
     have L:=len_leaf hw.1 a2.2 (by omega) (by omega) h3 rfl
     refine ⟨L.1,?_⟩
     rintro x4 h4 x5 h5 x6 h6
     rw[←h4]at L
     rw[wrap64 (by omega) (by omega)]at h5
     rw[wrap64 (by omega) (by omega)]at h6
     have e:x6=((bl x.toNat:Nat):Int):=by omega
     rw[e]
    ·intro x3 h3
     have L:=len_leaf hw.1 z0 (by omega) (by omega) h3 rfl
     refine ⟨L.1,?_⟩
     rintro x4 h4 x5 h5 x6 h6
     rw[←h4]at L
     rw[wrap64 (by omega) (by omega)]at h5
     rw[wrap64 (by omega) (by omega)]at h6
     have e:x6=((bl x.toNat:Nat):Int):=by omega
     rw[e]
 ·cases h
def cLen:Rd Tryz.prog:=mkR mixed 157 Tryz.func157 (by decide) (by kernel_rfl) [] [.num] rLen len_ok
def cxBl:Cx Tryz.prog:= { rds:= [cLen],efs:= [],eqs:= [] }
theorem vc_bl (a0 a1 a2 a3:Int) (K:SV→Mem→Prop):(execF cxBl u0 Tryz.f125 64 [.ptr 1 (.lit 0)] (memL [(1,⟨true,w4 a0 a1 a2 a3⟩)]) K)=(((a3 !=0)=true→(Wd a3∧∀a:Int,a=((bl (Int.toNat a3):Nat):Int)→∀b,b=
 IntKind.wrap IntKind.i64 (192+a)→K (.int .i64 (.sym b)) (memL [(1,⟨true,.cells [.int .u64 (.sym a0),.int .u64 (.sym a1),.int .u64 (.sym a2),.int .u64 (.sym a3)]⟩)])))∧((a3 !=0)=false→((a2 !=0)=true→(Wd a2∧∀c:Int,
 c=((bl (Int.toNat a2):Nat):Int)→∀d,d=IntKind.wrap IntKind.i64 (128+c)→K (.int .i64 (.sym d)) (memL [(1,⟨true,.cells [.int .u64 (.sym a0),.int .u64 (.sym a1),.int .u64 (.sym a2),.int .u64 (.sym a3)]⟩)])))∧((a2 !=0)=
 false→((a1 !=0)=true→(Wd a1∧∀e:Int,e=((bl (Int.toNat a1):Nat):Int)→∀f,f=IntKind.wrap IntKind.i64 (64+e)→K (.int .i64 (.sym f)) (memL [(1,⟨true,.cells [.int .u64 (.sym a0),.int .u64 (.sym a1),.int .u64 (.sym
 a2),.int .u64 (.sym a3)]⟩)])))∧((a1 !=0)=false→(Wd a0∧∀g:Int,g=((bl (Int.toNat a0):Nat):Int)→K (.int .i64 (.sym g)) (memL [(1,⟨true,.cells [.int .u64 (.sym a0),.int .u64 (.sym a1),.int .u64 (.sym a2),.int .u64
 (.sym a3)]⟩)])))))):=by kernel_rfl
def rBl:R0:=fun args l=>
 match args,l with
 | [.ptr 1 (.lit 0)],[(1,⟨true,x⟩)]=>r4 x fun a b c d=>some (some (Wd a∧Wd b∧Wd c∧Wd d),.int .i64 (.sym ((bl (V4 a b c d).toNat:Nat):Int)))
 | _,_=>none
theorem blen_ok (args:List SV) (l:List (Nat×Reg)) (p:Ob) (v:SV) (h:rBl args l=some (p,v)) (hp:p.ok):∃U,execF cxBl U Tryz.f125 64 args (memL l) fun v' _=>v'=v:=by
 unfold rBl at h
 split at h
 ·obtain ⟨a,b,c,d,rfl,q⟩:=r4_ex h
  simp only[Option.some.injEq,Prod.mk.injEq]at q
  obtain ⟨rfl,rfl⟩:=q
  obtain ⟨ha,hb,hc,hd⟩:Wd a∧Wd b∧Wd c∧Wd d:=hp
  have n0:=V4_nonneg ha hb hc hd
  have hw:∀ {z:Int},Wd z→bl z.toNat≤64:=fun hz=>bl_le (by unfold Wd at hz;omega)
  refine ⟨u0,?_⟩
  rw[vc_bl a b c d]
  simp only[bne_iff_ne,bne_eq_false_iff_eq,ne_eq]
  refine ⟨fun c0=>⟨hd,?_⟩,fun c0=>⟨fun c1=>⟨hc,?_⟩,fun c1=>⟨fun c2=>⟨hb,?_⟩,fun c2=>⟨ha,?_⟩⟩⟩⟩
  ·rintro x0 h0 x1 h1
   have:=hw hd
   rw[wrap64 (by omega) (by omega)]at h1
   have e:bl (V4 a b c d).toNat=192+bl d.toNat:=bl_div (by unfold V4 Wd at *;omega) (by unfold Wd at *;omega)
   have f:x1=((bl (V4 a b c d).toNat:Nat):Int):=by omega
   rw[f]
  ·rintro x0 h0 x1 h1
   have:=hw hc
   rw[wrap64 (by omega) (by omega)]at h1
   have e:bl (V4 a b c d).toNat=128+bl c.toNat:=bl_div (by unfold V4 Wd at *;omega) (by unfold Wd at *;omega)
   have f:x1=((bl (V4 a b c d).toNat:Nat):Int):=by omega
   rw[f]
  ·rintro x0 h0 x1 h1
   have:=hw hb
   rw[wrap64 (by omega) (by omega)]at h1
   have e:bl (V4 a b c d).toNat=64+bl b.toNat:=bl_div (by unfold V4 Wd at *;omega) (by unfold Wd at *;omega)
   have f:x1=((bl (V4 a b c d).toNat:Nat):Int):=by omega
   rw[f]
  ·rintro x0 h0
   have e:(V4 a b c d).toNat=a.toNat:=by unfold V4 Wd at *;omega
   rw[e,←h0]
 ·cases h
def cBl:Rd Tryz.prog:=mkR mixed 125 Tryz.func125 (by decide) (by kernel_rfl) [] [.ptr 4 true] rBl blen_ok
theorem lm5_wd {r:Nat}:Wd (lm r 4):=lm_wd r 4
theorem lm5_of {a b c d e:Int} (ha:Wd a) (hb:Wd b) (hc:Wd c) (hd:Wd d) (he:Wd e) {r:Nat} (h:V4 a b c d+e*115792089237316195423570985008687907853269984665640564039457584007913129639936=(r:Int)):
  a=lm r 0∧b=lm r 1∧c=lm r 2∧d=lm r 3∧e=lm r 4:=by
 unfold V4 at h
 unfold Wd at *
 unfold lm
 simp only[Nat.pow_zero,Nat.div_one,Nat.pow_one,Nat.reducePow]
 omega
theorem lm5_val {r:Nat} (h:r<2135987035920910082395021706169552114602704522356652769947041607822219725780640550022962086936576):V4 (lm r 0) (lm r 1) (lm r 2) (lm r 3)+lm r 4*115792089237316195423570985008687907853269984665640564039457584007913129639936=(r:Int):=by
 unfold V4 lm
 simp only[Nat.pow_zero,Nat.div_one,Nat.pow_one,Nat.reducePow]
 omega
def m5 (x:Int):Nat:=(x%2135987035920910082395021706169552114602704522356652769947041607822219725780640550022962086936576).toNat
theorem m5_lt (x:Int):m5 x<2135987035920910082395021706169552114602704522356652769947041607822219725780640550022962086936576:=by unfold m5;omega
theorem m5_of {x y t:Int} (h:x=y+2135987035920910082395021706169552114602704522356652769947041607822219725780640550022962086936576*t) (h0:0≤x) (h1:x<2135987035920910082395021706169552114602704522356652769947041607822219725780640550022962086936576):x=(m5 y:Int):=by unfold m5;omega
def NegP (a0 a1 a2 a3 h:Int) (K:Int→Int→Int→Int→Int→Prop):Prop:=
 SubS 0 a0 0 fun s0 k=>SubS 0 a1 k fun s1 k=>SubS 0 a2 k fun s2 k=>SubS 0 a3 k fun s3 k=>SubS 0 h k fun s4 _=>K s0 s1 s2 s3 s4
theorem negp_eq {a0 a1 a2 a3 h s0 s1 s2 s3 s4 k0 k1 k2 k3 k4:Int} (e0:s0=0-a0-0+k0*18446744073709551616) (e1:s1=0-a1-k0+k1*18446744073709551616) (e2:s2=0-a2-k1+k2*18446744073709551616)
  (e3:s3=0-a3-k2+k3*18446744073709551616) (e4:s4=0-h-k3+k4*18446744073709551616):
  V4 s0 s1 s2 s3+s4*115792089237316195423570985008687907853269984665640564039457584007913129639936= -(V4 a0 a1 a2 a3+h*115792089237316195423570985008687907853269984665640564039457584007913129639936)+2135987035920910082395021706169552114602704522356652769947041607822219725780640550022962086936576*k4:=by
 unfold V4
 omega
theorem V5_bd {a b c d e:Int} (ha:Wd a) (hb:Wd b) (hc:Wd c) (hd:Wd d) (he:Wd e):0≤V4 a b c d+e*115792089237316195423570985008687907853269984665640564039457584007913129639936∧V4 a b c d+e*115792089237316195423570985008687907853269984665640564039457584007913129639936<2135987035920910082395021706169552114602704522356652769947041607822219725780640550022962086936576:=by
 unfold V4 Wd at *
 omega
theorem NegP.of {a0 a1 a2 a3 h:Int} {K:Int→Int→Int→Int→Int→Prop} (ha:Wd a0∧Wd a1∧Wd a2∧Wd a3) (hh:Wd h) (hK:∀r,r=m5 (-(V4 a0 a1 a2 a3+h*115792089237316195423570985008687907853269984665640564039457584007913129639936))→K (lm r 0) (lm r 1) (lm r 2) (lm r 3) (lm r 4)):NegP a0 a1 a2 a3 h K:=by
 obtain ⟨ha0,ha1,ha2,ha3⟩:=ha
 refine SubS.of wd0 ha0 (Int.le_refl _) (by decide) fun s0 k0 c0 c1 c2 c3=> ?_
 refine SubS.of wd0 ha1 c1 c2 fun s1 k1 d0 d1 d2 d3=> ?_
 refine SubS.of wd0 ha2 d1 d2 fun s2 k2 e0 e1 e2 e3=> ?_
 refine SubS.of wd0 ha3 e1 e2 fun s3 k3 f0 f1 f2 f3=> ?_
 refine SubS.of wd0 hh f1 f2 fun s4 k4 g0 g1 g2 g3=> ?_
 have e:=negp_eq c3 d3 e3 f3 g3
 obtain ⟨b0,b1⟩:=V5_bd c0 d0 e0 f0 g0
 obtain ⟨q0,q1,q2,q3,q4⟩:=lm5_of c0 d0 e0 f0 g0 (m5_of e b0 b1)
 rw[q0,q1,q2,q3,q4]
 exact hK _ rfl
theorem vc_negl (a0 a1 a2 a3 h:Int) (K:SV→Mem→Prop):(execF cxAdd u0 Tryz.f129 64 [.ptr 1 (.lit 0),.int .u64 (.sym h)] (memL [(1,⟨false,w4 a0 a1 a2 a3⟩)]) K)=(NegP a0 a1 a2 a3 h fun a b c d e=>K (.int .u64 (.sym e)) (memL
 [(1,⟨false,w4 a b c d⟩)])):=by kernel_rfl
def gNl:G0:=fun args l K=>
 match args,l with
 | [.ptr 1 (.lit 0),.int .u64 (.sym s)],[(1,⟨false,z⟩)]=>c4 z fun z0 z1 z2 z3=>(((Wd z0∧Wd z1∧Wd z2∧Wd z3)∧Wd s)∧∀r,r=m5 (-(V4 z0 z1 z2 z3+s*115792089237316195423570985008687907853269984665640564039457584007913129639936))→K (.int .u64 (.sym (lm r 4))) (memL [(1,⟨false,e4 r⟩)]))
 | _,_=>False
theorem nl_good:Good gNl:=by
 constructor
 ·intro args l K K' hk h
  unfold gNl at h ⊢
  split at h
  ·exact c4_mono (fun _ _ _ _ h=>⟨h.1,fun r hr=>hk _ _ (h.2 r hr)⟩) h
  ·exact h.elim
 ·intro args l K h
  unfold gNl at h
  split at h
  ·obtain ⟨_,_,_,_,_,h⟩:=c4_ex h
   exact ⟨_,_,h.2 _ rfl⟩
  ·exact h.elim
theorem nl_ok (args:List SV) (l:List (Nat×Reg)) (K:SV→Mem→Prop) (hup:KUp K) (h:gNl args l K):∃U,execF cxAdd U Tryz.f129 64 args (memL l) K:=by
 unfold gNl at h
 split at h
 ·rename_i s zz
  obtain ⟨z0,z1,z2,z3,rfl,q0⟩:=c4_ex h
  refine ⟨u0,?_⟩
  rw[vc_negl z0 z1 z2 z3 s]
  exact NegP.of q0.1.1 q0.1.2 q0.2
 ·exact h.elim
def kNl:Ef Tryz.prog:=mkE mixed 129 Tryz.func129 (by decide) (by kernel_rfl) [] [.ptr 4 false,.num] gNl nl_good nl_ok
theorem vc_m1 (a b c:Int) (K:SV→Mem→Prop):execF cxAr u0 Tryz.f166 64 [.int .u64 (.sym a),.int .u64 (.sym b),.int .u64 (.sym c)] (memL []) K=(MulS a b fun h l=>AddS l c 0 fun l k=>AddS h 0 k fun h _=>K (.tup [.int .u64
 (.sym h),.int .u64 (.sym l)]) (memL [])):=by kernel_rfl
def m1h (a b c:Int):Int:=sumLo (mulHi a b) 0 (sumHi (mulLo a b) c 0)
def m1l (a b c:Int):Int:=sumLo (mulLo a b) c 0
theorem m1_eq {a b c:Int} (ha:Wd a) (hb:Wd b) (hc:Wd c):m1h a b c*18446744073709551616+m1l a b c=a*b+c:=by
 have h0:0≤a*b:=Int.mul_nonneg ha.1 hb.1
 have h1:a*b≤18446744073709551615*b:=Int.mul_le_mul_of_nonneg_right (by have:=ha.2;omega) hb.1
 unfold m1h m1l sumLo sumHi mulHi mulLo
 unfold Wd at *
 omega
theorem m1h_wd (a b c:Int):Wd (m1h a b c):=sumLo_wd _ _ _
theorem m1l_wd (a b c:Int):Wd (m1l a b c):=sumLo_wd _ _ _
def rM1:R0:=fun args l=>
 match args,l with
 | [.int .u64 (.sym a),.int .u64 (.sym b),.int .u64 (.sym c)],[]=>some (some (Wd a∧Wd b∧Wd c),.tup [.int .u64 (.sym (m1h a b c)),.int .u64 (.sym (m1l a b c))])
 | _,_=>none
theorem m1_ok (args:List SV) (l:List (Nat×Reg)) (p:Ob) (v:SV) (h:rM1 args l=some (p,v)) (hp:p.ok):∃U,execF cxAr U Tryz.f166 64 args (memL l) fun v' _=>v'=v:=by
 refine ⟨u0,?_⟩
 unfold rM1 at h
 split at h
 ·rename_i a b c
  simp only[Option.some.injEq,Prod.mk.injEq]at h
  obtain ⟨rfl,rfl⟩:=h
  obtain ⟨ha,hb,hc⟩:Wd a∧Wd b∧Wd c:=hp
  rw[vc_m1]
  refine ⟨⟨ha,hb⟩,?_⟩
  rintro _ rfl _ rfl
  refine ⟨⟨mulLo_wd _ _,hc,by decide,by decide⟩,?_⟩
  rintro _ rfl _ rfl
  refine ⟨⟨mulHi_wd ha hb,wd0,sumHi_le (mulLo_wd _ _) hc (by decide) (by decide)⟩,?_⟩
  rintro _ rfl _ rfl
  rfl
 ·cases h
def cM1:Rd Tryz.prog:=mkR mixed 166 Tryz.func166 (by decide) (by kernel_rfl) [] [.num,.num,.num] rM1 m1_ok
def cxMw:Cx Tryz.prog:= { rds:= [cMul64,cM1],efs:= [kNl],eqs:= [] }
def MwP (a0 a1 a2 a3 y:Int) (K:Int→Int→Int→Int→Int→Prop):Prop:=
 ∀x0,x0=shrv .i64 y 63→∀x1,x1=bxor .i64 y x0→∀x2,x2=IntKind.i64.wrap (x1-x0)→∀x3,x3=IntKind.u64.wrap x2→(Wd a0∧Wd x3)∧∀x4,x4=mulHi a0 x3→∀x5,x5=mulLo a0 x3→
  (Wd a1∧Wd x3∧Wd x4)∧∀x6,x6=m1h a1 x3 x4→∀x7,x7=m1l a1 x3 x4→(Wd a2∧Wd x3∧Wd x6)∧∀x8,x8=m1h a2 x3 x6→∀x9,x9=m1l a2 x3 x6→(Wd a3∧Wd x3∧Wd x8)∧∀x10,x10=m1h a3 x3 x8→∀x11,x11=m1l a3 x3 x8→
  (decide (y<0)=true→((Wd x5∧Wd x7∧Wd x9∧Wd x11)∧Wd x10)∧∀r,r=m5 (-(V4 x5 x7 x9 x11+x10*115792089237316195423570985008687907853269984665640564039457584007913129639936))→K (lm r 0) (lm r 1) (lm r 2) (lm r 3) (lm r 4))∧
  (decide (y<0)=false→K x5 x7 x9 x11 x10)
theorem vc_mw0 (z0 z1 z2 z3 a0 a1 a2 a3 y:Int) (K:SV→Mem→Prop):(execF cxMw u0 Tryz.f158 64 [.ptr 1 (.lit 0),.ptr 9 (.lit 0),.int .i64 (.sym y)] (memL [(1,⟨false,w4 z0 z1 z2 z3⟩),(9,⟨true,w4 a0 a1 a2 a3⟩)]) K)=(MwP a0 a1 a2
 a3 y fun a b c d e=>K (.int .u64 (.sym e)) (memL [(1,⟨false,w4 a b c d⟩),(9,⟨true,w4 a0 a1 a2 a3⟩)])):=by kernel_rfl
theorem vc_mw1 (z0 z1 z2 z3 y:Int) (K:SV→Mem→Prop):(execF cxMw u0 Tryz.f158 64 [.ptr 1 (.lit 0),.ptr 1 (.lit 0),.int .i64 (.sym y)] (memL [(1,⟨false,w4 z0 z1 z2 z3⟩)]) K)=(MwP z0 z1 z2 z3 y fun a b c d e=>K (.int .u64 (.sym
 e)) (memL [(1,⟨false,w4 a b c d⟩)])):=by kernel_rfl
def I64 (y:Int):Prop:= -9223372036854775808≤y∧y<9223372036854775808
theorem shr63i {y:Int} (h:I64 y):shrv .i64 y 63=if y<0 then -1 else 0:=by
 unfold shrv
 rw[show min 63 IntKind.i64.bits=63 by decide,Int.fdiv_eq_ediv_of_nonneg _ (by decide)]
 unfold I64 at h
 split<;>omega
theorem bxor_i64 {y:Int} (h:I64 y):bxor .i64 y 0=y∧bxor .i64 y (-1)= -y-1:=by
 unfold I64 at h
 have e1:(BitVec.ofInt IntKind.i64.bits y).toNat=(y%18446744073709551616).toNat:=by
  simp only[IntKind.bits,BitVec.toNat_ofInt]
  rfl
 have w:∀z:Int,-9223372036854775808≤z→z<9223372036854775808→IntKind.i64.wrap (((z%18446744073709551616).toNat:Nat):Int)=z:=fun z h0 h1=>by
  show (if (true && decide (((z%18446744073709551616).toNat:Int)%18446744073709551616≥9223372036854775808))=true then ((z%18446744073709551616).toNat:Int)%18446744073709551616-18446744073709551616 else ((z%18446744073709551616).toNat:Int)%18446744073709551616)=z
  simp only[Bool.true_and,decide_eq_true_eq]
  split<;>omega
 constructor
 ·unfold bxor
  rw[BitVec.toNat_xor,e1,show (BitVec.ofInt IntKind.i64.bits (0:Int)).toNat=0 by decide,Nat.xor_zero]
  exact w y h.1 h.2
 ·have e2:bxor .i64 y (-1)=IntKind.i64.wrap ((((-y-1)%18446744073709551616).toNat:Nat):Int):=by
   have key:∀b:BitVec 64,(b ^^^ BitVec.ofInt 64 (-1)).toNat=2 ^ 64-1-b.toNat:=fun b=>by
    rw[show BitVec.ofInt 64 (-1:Int)=BitVec.allOnes 64 by decide,BitVec.xor_allOnes,BitVec.toNat_not]
   have e3:(BitVec.ofInt 64 y).toNat=(y%18446744073709551616).toNat:=e1
   show IntKind.i64.wrap (((BitVec.ofInt 64 y ^^^ BitVec.ofInt 64 (-1)).toNat:Nat):Int)=_
   rw[key,e3]
   congr 2
   omega
  rw[e2]
  exact w _ (by omega) (by omega)
theorem abs_of {y x0 x1 x2 x3:Int} (h:I64 y) (h0:x0=shrv .i64 y 63) (h1:x1=bxor .i64 y x0) (h2:x2=IntKind.i64.wrap (x1-x0)) (h3:x3=IntKind.u64.wrap x2):x3=(y.natAbs:Int):=by
 obtain ⟨b0,b1⟩:=bxor_i64 h
 rw[shr63i h]at h0
 obtain ⟨t,ht⟩:=wrap64_ex (x1-x0)
 rw[ht]at h2
 rw[wu64]at h3
 unfold I64 at h
 split at h0
 ·rw[h0,b1]at h1
  omega
 ·rw[h0,b0]at h1
  omega
theorem mw_eq {a0 a1 a2 a3 w h0 l0 h1 l1 h2 l2 h3 l3:Int} (e0:h0*18446744073709551616+l0=a0*w) (e1:h1*18446744073709551616+l1=a1*w+h0) (e2:h2*18446744073709551616+l2=a2*w+h1) (e3:h3*18446744073709551616+l3=a3*w+h2):
  V4 l0 l1 l2 l3+h3*115792089237316195423570985008687907853269984665640564039457584007913129639936=V4 a0 a1 a2 a3*w:=by
 unfold V4
 simp only[Int.add_mul]
 rw[Int.mul_right_comm a1,Int.mul_right_comm a2,Int.mul_right_comm a3]
 omega
theorem mulHL {x y:Int}:mulHi x y*18446744073709551616+mulLo x y=x*y:=by unfold mulHi mulLo;omega
theorem MwP.of {a0 a1 a2 a3 y:Int} {K:Int→Int→Int→Int→Int→Prop} (ha:Wd a0∧Wd a1∧Wd a2∧Wd a3) (hy:I64 y) (hK:∀r,r=m5 (V4 a0 a1 a2 a3*y)→K (lm r 0) (lm r 1) (lm r 2) (lm r 3) (lm r 4)):MwP a0 a1 a2 a3 y K:=by
 obtain ⟨ha0,ha1,ha2,ha3⟩:=ha
 intro x0 h0 x1 h1 x2 h2 x3 h3
 have e3:=abs_of hy h0 h1 h2 h3
 have w3:Wd x3:=by unfold I64 at hy;unfold Wd;omega
 refine ⟨⟨ha0,w3⟩,?_⟩
 rintro x4 h4 x5 h5
 have w4':Wd x4:=by rw[h4];exact mulHi_wd ha0 w3
 have w5:Wd x5:=by rw[h5];exact mulLo_wd _ _
 refine ⟨⟨ha1,w3,w4'⟩,?_⟩
 rintro x6 h6 x7 h7
 have w6:Wd x6:=by rw[h6];exact m1h_wd _ _ _
 have w7:Wd x7:=by rw[h7];exact m1l_wd _ _ _
 refine ⟨⟨ha2,w3,w6⟩,?_⟩
 rintro x8 h8 x9 h9
 have w8:Wd x8:=by rw[h8];exact m1h_wd _ _ _
 have w9:Wd x9:=by rw[h9];exact m1l_wd _ _ _
 refine ⟨⟨ha3,w3,w8⟩,?_⟩
 rintro x10 h10 x11 h11
 have w10:Wd x10:=by rw[h10];exact m1h_wd _ _ _
 have w11:Wd x11:=by rw[h11];exact m1l_wd _ _ _
 have e:=mw_eq (w:=x3) (h0:=x4) (l0:=x5) (h1:=x6) (l1:=x7) (h2:=x8) (l2:=x9) (h3:=x10) (l3:=x11) (by rw[h4,h5];exact mulHL) (by rw[h6,h7];exact m1_eq ha1 w3 w4') (by rw[h8,h9];exact m1_eq ha2 w3 w6) (by rw[h10,h11];exact m1_eq ha3 w3 w8)
 obtain ⟨b0,b1⟩:=V5_bd w5 w7 w9 w11 w10
 refine ⟨fun hn=> ?_,fun hn=> ?_⟩
 ·simp only[decide_eq_true_eq]at hn
  refine ⟨⟨⟨w5,w7,w9,w11⟩,w10⟩,fun r hr=>hK r ?_⟩
  rw[hr,e,e3,show ((y.natAbs:Nat):Int)= -y by omega,Int.mul_neg,Int.neg_neg]
 ·simp only[decide_eq_false_iff_not]at hn
  have e4:x3=y:=by omega
  rw[e4]at e
  have hz:V4 x5 x7 x9 x11+x10*115792089237316195423570985008687907853269984665640564039457584007913129639936=((m5 (V4 a0 a1 a2 a3*y):Nat):Int):=by
   unfold m5
   omega
  obtain ⟨q0,q1,q2,q3,q4⟩:=lm5_of w5 w7 w9 w11 w10 hz
  rw[q0,q1,q2,q3,q4]
  exact hK _ rfl
def gMw:G0:=fun args l K=>
 match args,l with
 | [.ptr 1 (.lit 0),.ptr 9 (.lit 0),.int .i64 (.sym s)],[(1,⟨false,z⟩),(9,⟨true,x⟩)]=>c4 z fun _ _ _ _=>c4 x fun a0 a1 a2 a3=>(((Wd a0∧Wd a1∧Wd a2∧Wd a3)∧I64 s)∧∀r,r=m5 (V4 a0 a1 a2 a3*s)→K (.int .u64 (.sym (lm r 4))) (memL [(1,⟨false,e4 r⟩),(9,⟨true,w4 a0 a1 a2 a3⟩)]))
 | [.ptr 1 (.lit 0),.ptr 1 (.lit 0),.int .i64 (.sym s)],[(1,⟨false,z⟩)]=>c4 z fun z0 z1 z2 z3=>(((Wd z0∧Wd z1∧Wd z2∧Wd z3)∧I64 s)∧∀r,r=m5 (V4 z0 z1 z2 z3*s)→K (.int .u64 (.sym (lm r 4))) (memL [(1,⟨false,e4 r⟩)]))
 | _,_=>False
theorem mw_good:Good gMw:=by
 constructor
 ·intro args l K K' hk h
  unfold gMw at h ⊢
  split at h
  ·exact c4_mono (fun _ _ _ _ h=>c4_mono (fun _ _ _ _ h=>⟨h.1,fun r hr=>hk _ _ (h.2 r hr)⟩) h) h
  ·exact c4_mono (fun _ _ _ _ h=>⟨h.1,fun r hr=>hk _ _ (h.2 r hr)⟩) h
  ·exact h.elim
 ·intro args l K h
  unfold gMw at h
  split at h
  ·obtain ⟨_,_,_,_,_,h⟩:=c4_ex h
   obtain ⟨_,_,_,_,_,h⟩:=c4_ex h
   exact ⟨_,_,h.2 _ rfl⟩
  ·obtain ⟨_,_,_,_,_,h⟩:=c4_ex h
   exact ⟨_,_,h.2 _ rfl⟩
  ·exact h.elim
theorem mw_ok (args:List SV) (l:List (Nat×Reg)) (K:SV→Mem→Prop) (hup:KUp K) (h:gMw args l K):∃U,execF cxMw U Tryz.f158 64 args (memL l) K:=by
 unfold gMw at h
 split at h
 ·rename_i s zz aa
  obtain ⟨z0,z1,z2,z3,rfl,q0⟩:=c4_ex h
  obtain ⟨a0,a1,a2,a3,rfl,q1⟩:=c4_ex q0
  refine ⟨u0,?_⟩
  rw[vc_mw0 z0 z1 z2 z3 a0 a1 a2 a3 s]
  exact MwP.of q1.1.1 q1.1.2 q1.2
 ·rename_i s zz
  obtain ⟨z0,z1,z2,z3,rfl,q0⟩:=c4_ex h
  refine ⟨u0,?_⟩
  rw[vc_mw1 z0 z1 z2 z3 s]
  exact MwP.of q0.1.1 q0.1.2 q0.2
 ·exact h.elim
def kMw:Ef Tryz.prog:=mkE mixed 158 Tryz.func158 (by decide) (by kernel_rfl) [] [.ptr 4 false,.ptr 4 true,.num] gMw mw_good mw_ok
def cxLc:Cx Tryz.prog:= { rds:= [cAdd],efs:= [kMw],eqs:= [] }
def LcP (a0 a1 a2 a3 b0 b1 b2 b3 y s:Int) (K:Int→Int→Int→Int→Int→Nat→Prop):Prop:=
 ((Wd b0∧Wd b1∧Wd b2∧Wd b3)∧I64 s)∧∀r0,r0=m5 (V4 b0 b1 b2 b3*s)→((Wd a0∧Wd a1∧Wd a2∧Wd a3)∧I64 y)∧∀r1,r1=m5 (V4 a0 a1 a2 a3*y)→
  AddS (lm r1 0) (lm r0 0) 0 fun s0 k=>AddS (lm r1 1) (lm r0 1) k fun s1 k=>AddS (lm r1 2) (lm r0 2) k fun s2 k=>AddS (lm r1 3) (lm r0 3) k fun s3 k=>AddS (lm r1 4) (lm r0 4) k fun s4 _=>K s0 s1 s2 s3 s4 r0
theorem lc_eq {a0 a1 a2 a3 a4 b0 b1 b2 b3 b4 s0 s1 s2 s3 s4 k0 k1 k2 k3 k4:Int} (e0:s0+k0*18446744073709551616=a0+b0+0) (e1:s1+k1*18446744073709551616=a1+b1+k0)
  (e2:s2+k2*18446744073709551616=a2+b2+k1) (e3:s3+k3*18446744073709551616=a3+b3+k2) (e4:s4+k4*18446744073709551616=a4+b4+k3):
  (V4 s0 s1 s2 s3+s4*115792089237316195423570985008687907853269984665640564039457584007913129639936)+k4*2135987035920910082395021706169552114602704522356652769947041607822219725780640550022962086936576=(V4 a0 a1 a2 a3+a4*115792089237316195423570985008687907853269984665640564039457584007913129639936)+(V4 b0 b1 b2 b3+b4*115792089237316195423570985008687907853269984665640564039457584007913129639936):=by
 unfold V4
 omega
theorem m5_add {u v z k:Int} (h:z+k*2135987035920910082395021706169552114602704522356652769947041607822219725780640550022962086936576=(m5 u:Int)+(m5 v:Int)) (h0:0≤z) (h1:z<2135987035920910082395021706169552114602704522356652769947041607822219725780640550022962086936576):z=((m5 (u+v):Nat):Int):=by
 unfold m5 at *
 omega
theorem LcP.of {a0 a1 a2 a3 b0 b1 b2 b3 y s:Int} {K:Int→Int→Int→Int→Int→Nat→Prop} (ha:Wd a0∧Wd a1∧Wd a2∧Wd a3) (hb:Wd b0∧Wd b1∧Wd b2∧Wd b3) (hy:I64 y) (hs:I64 s)
  (hK:∀r r0,r=m5 (V4 a0 a1 a2 a3*y+V4 b0 b1 b2 b3*s)→K (lm r 0) (lm r 1) (lm r 2) (lm r 3) (lm r 4) r0):LcP a0 a1 a2 a3 b0 b1 b2 b3 y s K:=by
 refine ⟨⟨hb,hs⟩,fun r0 h0=>⟨⟨ha,hy⟩,fun r1 h1=> ?_⟩⟩
 have W:=lm_wd
 refine AddS.of (W _ _) (W _ _) (Int.le_refl _) (by decide) fun s0 k0 c0 c1 c2 c3=> ?_
 refine AddS.of (W _ _) (W _ _) c1 c2 fun s1 k1 d0 d1 d2 d3=> ?_
 refine AddS.of (W _ _) (W _ _) d1 d2 fun s2 k2 e0 e1 e2 e3=> ?_
 refine AddS.of (W _ _) (W _ _) e1 e2 fun s3 k3 f0 f1 f2 f3=> ?_
 refine AddS.of (W _ _) (W _ _) f1 f2 fun s4 k4 g0 g1 g2 g3=> ?_
 have e:=lc_eq c3 d3 e3 f3 g3
 rw[lm5_val (by rw[h1];exact m5_lt _),lm5_val (by rw[h0];exact m5_lt _),h0,h1]at e
 obtain ⟨b0',b1'⟩:=V5_bd c0 d0 e0 f0 g0
 obtain ⟨q0,q1,q2,q3,q4⟩:=lm5_of c0 d0 e0 f0 g0 (m5_add e b0' b1')
 rw[q0,q1,q2,q3,q4]
 exact hK _ _ rfl
theorem vc_lc0 (z0 z1 z2 z3 a0 a1 a2 a3 b0 b1 b2 b3 y s:Int) (K:SV→Mem→Prop):(execF cxLc u0 Tryz.f128 64 [.ptr 1 (.lit 0),.ptr 9 (.lit 0),.int .i64 (.sym y),.ptr 17 (.lit 0),.int .i64 (.sym s)] (memL [(1,⟨false,w4 z0 z1 z2
 z3⟩),(9,⟨true,w4 a0 a1 a2 a3⟩),(17,⟨true,w4 b0 b1 b2 b3⟩)]) K)=(LcP a0 a1 a2 a3 b0 b1 b2 b3 y s fun a b c d e f=>K (.int .u64 (.sym e)) (memL [(1,⟨false,w4 a b c d⟩),(9,⟨true,w4 a0 a1 a2 a3⟩),(17,⟨true,w4 b0 b1 b2 b3⟩),
 (521,⟨false,e4 f⟩)])):=by kernel_rfl
theorem vc_lc1 (z0 z1 z2 z3 a0 a1 a2 a3 y s:Int) (K:SV→Mem→Prop):(execF cxLc u0 Tryz.f128 64 [.ptr 1 (.lit 0),.ptr 9 (.lit 0),.int .i64 (.sym y),.ptr 1 (.lit 0),.int .i64 (.sym s)] (memL [(1,⟨false,w4 z0 z1 z2 z3⟩),(9,
 ⟨true,w4 a0 a1 a2 a3⟩)]) K)=(LcP a0 a1 a2 a3 z0 z1 z2 z3 y s fun a b c d e f=>K (.int .u64 (.sym e)) (memL [(1,⟨false,w4 a b c d⟩),(9,⟨true,w4 a0 a1 a2 a3⟩),(521,⟨false,e4 f⟩)])):=by kernel_rfl
theorem vc_lc2 (z0 z1 z2 z3 b0 b1 b2 b3 y s:Int) (K:SV→Mem→Prop):(execF cxLc u0 Tryz.f128 64 [.ptr 1 (.lit 0),.ptr 1 (.lit 0),.int .i64 (.sym y),.ptr 9 (.lit 0),.int .i64 (.sym s)] (memL [(1,⟨false,w4 z0 z1 z2 z3⟩),(9,
 ⟨true,w4 b0 b1 b2 b3⟩)]) K)=(LcP z0 z1 z2 z3 b0 b1 b2 b3 y s fun a b c d e f=>K (.int .u64 (.sym e)) (memL [(1,⟨false,w4 a b c d⟩),(9,⟨true,w4 b0 b1 b2 b3⟩),(521,⟨false,e4 f⟩)])):=by kernel_rfl
def gLc:G0:=fun args l K=>
 match args,l with
 | [.ptr 1 (.lit 0),.ptr 9 (.lit 0),.int .i64 (.sym y),.ptr 17 (.lit 0),.int .i64 (.sym s)],[(1,⟨false,rz⟩),(9,⟨true,ra⟩),(17,⟨true,rb⟩)]=>c4 rz fun _ _ _ _=>c4 ra fun a0 a1 a2 a3=>c4 rb fun b0 b1 b2 b3=>((((Wd a0∧Wd a1∧Wd a2∧Wd a3)∧(Wd b0∧Wd b1∧Wd b2∧Wd b3))∧I64 y∧I64 s)∧∀r,r=m5 (V4 a0 a1 a2 a3*y+V4 b0 b1 b2 b3*s)→K (.int .u64 (.sym (lm r 4))) (memL [(1,⟨false,e4 r⟩),(9,⟨true,w4 a0 a1 a2 a3⟩),(17,⟨true,w4 b0 b1 b2 b3⟩)]))
 | [.ptr 1 (.lit 0),.ptr 9 (.lit 0),.int .i64 (.sym y),.ptr 1 (.lit 0),.int .i64 (.sym s)],[(1,⟨false,rz⟩),(9,⟨true,ra⟩)]=>c4 rz fun z0 z1 z2 z3=>c4 ra fun a0 a1 a2 a3=>((((Wd a0∧Wd a1∧Wd a2∧Wd a3)∧(Wd z0∧Wd z1∧Wd z2∧Wd z3))∧I64 y∧I64 s)∧∀r,r=m5 (V4 a0 a1 a2 a3*y+V4 z0 z1 z2 z3*s)→K (.int .u64 (.sym (lm r 4))) (memL [(1,⟨false,e4 r⟩),(9,⟨true,w4 a0 a1 a2 a3⟩)]))
 | [.ptr 1 (.lit 0),.ptr 1 (.lit 0),.int .i64 (.sym y),.ptr 9 (.lit 0),.int .i64 (.sym s)],[(1,⟨false,rz⟩),(9,⟨true,rb⟩)]=>c4 rz fun z0 z1 z2 z3=>c4 rb fun b0 b1 b2 b3=>((((Wd z0∧Wd z1∧Wd z2∧Wd z3)∧(Wd b0∧Wd b1∧Wd b2∧Wd b3))∧I64 y∧I64 s)∧∀r,r=m5 (V4 z0 z1 z2 z3*y+V4 b0 b1 b2 b3*s)→K (.int .u64 (.sym (lm r 4))) (memL [(1,⟨false,e4 r⟩),(9,⟨true,w4 b0 b1 b2 b3⟩)]))
 | _,_=>False
theorem lc_good:Good gLc:=by
 constructor
 ·intro args l K K' hk h
  unfold gLc at h ⊢
  split at h
  ·exact c4_mono (fun _ _ _ _ h=>c4_mono (fun _ _ _ _ h=>c4_mono (fun _ _ _ _ h=>⟨h.1,fun r hr=>hk _ _ (h.2 r hr)⟩) h) h) h
  ·exact c4_mono (fun _ _ _ _ h=>c4_mono (fun _ _ _ _ h=>⟨h.1,fun r hr=>hk _ _ (h.2 r hr)⟩) h) h
  ·exact c4_mono (fun _ _ _ _ h=>c4_mono (fun _ _ _ _ h=>⟨h.1,fun r hr=>hk _ _ (h.2 r hr)⟩) h) h
  ·exact h.elim
 ·intro args l K h
  unfold gLc at h
  split at h
  ·obtain ⟨_,_,_,_,_,h⟩:=c4_ex h
   obtain ⟨_,_,_,_,_,h⟩:=c4_ex h
   obtain ⟨_,_,_,_,_,h⟩:=c4_ex h
   exact ⟨_,_,h.2 _ rfl⟩
  ·obtain ⟨_,_,_,_,_,h⟩:=c4_ex h
   obtain ⟨_,_,_,_,_,h⟩:=c4_ex h
   exact ⟨_,_,h.2 _ rfl⟩
  ·obtain ⟨_,_,_,_,_,h⟩:=c4_ex h
   obtain ⟨_,_,_,_,_,h⟩:=c4_ex h
   exact ⟨_,_,h.2 _ rfl⟩
  ·exact h.elim
theorem lc_ok (args:List SV) (l:List (Nat×Reg)) (K:SV→Mem→Prop) (hup:KUp K) (h:gLc args l K):∃U,execF cxLc U Tryz.f128 64 args (memL l) K:=by
 unfold gLc at h
 split at h
 ·rename_i y s rz ra rb
  obtain ⟨z0,z1,z2,z3,rfl,q0⟩:=c4_ex h
  obtain ⟨a0,a1,a2,a3,rfl,q1⟩:=c4_ex q0
  obtain ⟨b0,b1,b2,b3,rfl,q2⟩:=c4_ex q1
  refine ⟨u0,?_⟩
  rw[vc_lc0 z0 z1 z2 z3 a0 a1 a2 a3 b0 b1 b2 b3 y s]
  exact LcP.of q2.1.1.1 q2.1.1.2 q2.1.2.1 q2.1.2.2 fun r r0 hr=>hup.le (memL_snoc rfl (by simp)) (q2.2 r hr)
 ·rename_i y s rz ra
  obtain ⟨z0,z1,z2,z3,rfl,q0⟩:=c4_ex h
  obtain ⟨a0,a1,a2,a3,rfl,q1⟩:=c4_ex q0
  refine ⟨u0,?_⟩
  rw[vc_lc1 z0 z1 z2 z3 a0 a1 a2 a3 y s]
  exact LcP.of q1.1.1.1 q1.1.1.2 q1.1.2.1 q1.1.2.2 fun r r0 hr=>hup.le (memL_snoc rfl (by simp)) (q1.2 r hr)
 ·rename_i y s rz rb
  obtain ⟨z0,z1,z2,z3,rfl,q0⟩:=c4_ex h
  obtain ⟨b0,b1,b2,b3,rfl,q1⟩:=c4_ex q0
  refine ⟨u0,?_⟩
  rw[vc_lc2 z0 z1 z2 z3 b0 b1 b2 b3 y s]
  exact LcP.of q1.1.1.1 q1.1.1.2 q1.1.2.1 q1.1.2.2 fun r r0 hr=>hup.le (memL_snoc rfl (by simp)) (q1.2 r hr)
 ·exact h.elim
def kLc:Ef Tryz.prog:=mkE mixed 128 Tryz.func128 (by decide) (by kernel_rfl) [] [.ptr 4 false,.ptr 4 true,.num,.ptr 4 true,.num] gLc lc_good lc_ok
def cxMr:Cx Tryz.prog:= { rds:= [cM0,cM2,cStm,cSub,cAdd],efs:= [],eqs:= [] }
theorem vc_mr (z0 z1 z2 z3 h:Int) (K:SV→Mem→Prop):(execF cxMr u0 Tryz.f159 64 [.ptr 1 (.lit 0),.ptr 1 (.lit 0),.int .u64 (.sym h)] (memL [(1,⟨false,w4 z0 z1 z2 z3⟩)]) K)=(∀p,p=band .u64 h (9223372036854775808:Int)→∀
 x1,x1=band .u64 h (9223372036854775807:Int)→∀a,a=IntKind.wrap IntKind.u64 (z0*9786893198990664585)→((Wd a∧Wd (4332616871279656263:Int)∧Wd z0)∧∀R,R=m0v a (4332616871279656263:Int) z0→((Wd a∧Wd
 (10917124144477883021:Int)∧Wd z1∧Wd R)∧∀S,S=m2h a (10917124144477883021:Int) z1 R→∀j,j=m2l a (10917124144477883021:Int) z1 R→((Wd a∧Wd (13281191951274694749:Int)∧Wd z2∧Wd S)∧∀T,T=m2h a
 (13281191951274694749:Int) z2 S→∀V,V=m2l a (13281191951274694749:Int) z2 S→((Wd a∧Wd (3486998266802970665:Int)∧Wd z3∧Wd T)∧∀x8,x8=m2h a (3486998266802970665:Int) z3 T→∀X,X=m2l a (3486998266802970665:Int)
 z3 T→∀Y,Y=IntKind.wrap IntKind.u64 (x1+x8)→∀b,b=IntKind.wrap IntKind.u64 (j*9786893198990664585)→((Wd b∧Wd (4332616871279656263:Int)∧Wd j)∧∀Z,Z=m0v b (4332616871279656263:Int) j→((Wd b∧Wd
 (10917124144477883021:Int)∧Wd V∧Wd Z)∧∀aa,aa=m2h b (10917124144477883021:Int) V Z→∀k,k=m2l b (10917124144477883021:Int) V Z→((Wd b∧Wd (13281191951274694749:Int)∧Wd X∧Wd aa)∧∀ab,ab=m2h b
 (13281191951274694749:Int) X aa→∀ac,ac=m2l b (13281191951274694749:Int) X aa→((Wd b∧Wd (3486998266802970665:Int)∧Wd Y∧Wd ab)∧∀ap,ap=m2h b (3486998266802970665:Int) Y ab→∀ad,ad=m2l b (3486998266802970665:
 Int) Y ab→∀ae,ae=IntKind.wrap IntKind.u64 (0+ap)→∀c,c=IntKind.wrap IntKind.u64 (k*9786893198990664585)→((Wd c∧Wd (4332616871279656263:Int)∧Wd k)∧∀af,af=m0v c (4332616871279656263:Int) k→((Wd c∧Wd
 (10917124144477883021:Int)∧Wd ac∧Wd af)∧∀ag,ag=m2h c (10917124144477883021:Int) ac af→∀l,l=m2l c (10917124144477883021:Int) ac af→((Wd c∧Wd (13281191951274694749:Int)∧Wd ad∧Wd ag)∧∀ah,ah=m2h c
 (13281191951274694749:Int) ad ag→∀m,m=m2l c (13281191951274694749:Int) ad ag→((Wd c∧Wd (3486998266802970665:Int)∧Wd ae∧Wd ah)∧∀aq,aq=m2h c (3486998266802970665:Int) ae ah→∀n,n=m2l c (3486998266802970665:
 Int) ae ah→∀o,o=IntKind.wrap IntKind.u64 (0+aq)→∀d,d=IntKind.wrap IntKind.u64 (l*9786893198990664585)→((Wd d∧Wd (4332616871279656263:Int)∧Wd l)∧∀ai,ai=m0v d (4332616871279656263:Int) l→((Wd d∧Wd
 (10917124144477883021:Int)∧Wd m∧Wd ai)∧∀aj,aj=m2h d (10917124144477883021:Int) m ai→∀e,e=m2l d (10917124144477883021:Int) m ai→((Wd d∧Wd (13281191951274694749:Int)∧Wd n∧Wd aj)∧∀ak,ak=m2h d
 (13281191951274694749:Int) n aj→∀f,f=m2l d (13281191951274694749:Int) n aj→((Wd d∧Wd (3486998266802970665:Int)∧Wd o∧Wd ak)∧∀g,g=m2h d (3486998266802970665:Int) o ak→∀i,i=m2l d (3486998266802970665:Int) o
 ak→(Wd e∧Wd f∧Wd i∧Wd g)∧(Bool.not (decide (V4 e f i g<21888242871839275222246405745257275088696311157297823662689037894645226208583))=true→((Wd e∧Wd (4332616871279656263:Int)∧(0:Int)≤(0:Int)∧(0:Int)≤(1:
 Int))∧∀q,q=difLo e (4332616871279656263:Int) (0:Int)→∀r,r=difHi e (4332616871279656263:Int) (0:Int)→((Wd f∧Wd (10917124144477883021:Int)∧0≤r∧r≤1)∧∀s,s=difLo f (10917124144477883021:Int) r→∀t,t
 =difHi f (10917124144477883021:Int) r→((Wd i∧Wd (13281191951274694749:Int)∧0≤t∧t≤1)∧∀u,u=difLo i (13281191951274694749:Int) t→∀v,v=difHi i (13281191951274694749:Int) t→((Wd g∧Wd (3486998266802970665:
 Int)∧0≤v∧v≤1)∧∀w,w=difLo g (3486998266802970665:Int) v→∀a3,a3=difHi g (3486998266802970665:Int) v→((p !=0)=true→((Wd q∧Wd (9223372036854775808:Int)∧(0:Int)≤(0:Int)∧(0:Int)≤(1:Int))∧∀x,
 x=difLo q (9223372036854775808:Int) (0:Int)→∀y,y=difHi q (9223372036854775808:Int) (0:Int)→((Wd s∧Wd (0:Int)∧0≤y∧y≤1)∧∀z,z=difLo s (0:Int) y→∀A,A=difHi s (0:Int) y→((Wd u∧Wd (0:Int)∧0≤
 A∧A≤1)∧∀B,B=difLo u (0:Int) A→∀C,C=difHi u (0:Int) A→((Wd w∧Wd (0:Int)∧0≤C∧C≤1)∧∀ar,ar=difLo w (0:Int) C→∀al,al=difHi w (0:Int) C→((al !=0)=true→((Wd x∧Wd (4332616871279656263:
 Int)∧(0:Int)≤(0:Int)∧(0:Int)≤(1:Int))∧∀au,au=sumLo x (4332616871279656263:Int) (0:Int)→∀D,D=sumHi x (4332616871279656263:Int) (0:Int)→((Wd z∧Wd (10917124144477883021:Int)∧0≤D∧D≤1)∧∀av,
 av=sumLo z (10917124144477883021:Int) D→∀E,E=sumHi z (10917124144477883021:Int) D→((Wd B∧Wd (13281191951274694749:Int)∧0≤E∧E≤1)∧∀aw,aw=sumLo B (13281191951274694749:Int) E→∀F,F=sumHi B
 (13281191951274694749:Int) E→((Wd (18446744073709551615:Int)∧Wd (3486998266802970665:Int)∧0≤F∧F≤1)∧∀ax,ax=sumLo (18446744073709551615:Int) (3486998266802970665:Int) F→∀a4,a4=sumHi (18446744073709551615:
 Int) (3486998266802970665:Int) F→K (.tup []) (memL [(1,⟨false,.cells [.int .u64 (.sym au),.int .u64 (.sym av),.int .u64 (.sym aw),.int .u64 (.sym ax)]⟩),(569,⟨false,.cells [.int .u64 (.lit 0),.int .u64 (.sym j),.int .u64
 (.sym k),.int .u64 (.sym l),.int .u64 (.sym m),.int .u64 (.sym n),.int .u64 (.sym o)]⟩)]))))))∧((al !=0)=false→K (.tup []) (memL [(1,⟨false,.cells [.int .u64 (.sym x),.int .u64 (.sym z),.int .u64 (.sym B),.int .u64 (.sym
 ar)]⟩),(569,⟨false,.cells [.int .u64 (.lit 0),.int .u64 (.sym j),.int .u64 (.sym k),.int .u64 (.sym l),.int .u64 (.sym m),.int .u64 (.sym n),.int .u64 (.sym o)]⟩)])))))))∧((p !=0)=false→K (.tup []) (memL [(1,⟨false,.cells
 [.int .u64 (.sym q),.int .u64 (.sym s),.int .u64 (.sym u),.int .u64 (.sym w)]⟩),(569,⟨false,.cells [.int .u64 (.lit 0),.int .u64 (.sym j),.int .u64 (.sym k),.int .u64 (.sym l),.int .u64 (.sym m),.int .u64 (.sym n),.int .u64
 (.sym o)]⟩)])))))))∧(Bool.not (decide (V4 e f i g<21888242871839275222246405745257275088696311157297823662689037894645226208583))=false→((p !=0)=true→((Wd e∧Wd (9223372036854775808:Int)∧(0:Int)≤(0:Int)∧(0:Int)
 ≤(1:Int))∧∀G,G=difLo e (9223372036854775808:Int) (0:Int)→∀H,H=difHi e (9223372036854775808:Int) (0:Int)→((Wd f∧Wd (0:Int)∧0≤H∧H≤1)∧∀I,I=difLo f (0:Int) H→∀J,J=difHi f (0:Int) H→((Wd i
 ∧Wd (0:Int)∧0≤J∧J≤1)∧∀L,L=difLo i (0:Int) J→∀M,M=difHi i (0:Int) J→((Wd g∧Wd (0:Int)∧0≤M∧M≤1)∧∀ay,ay=difLo g (0:Int) M→∀am,am=difHi g (0:Int) M→((am !=0)=true→((Wd G∧Wd
 (4332616871279656263:Int)∧(0:Int)≤(0:Int)∧(0:Int)≤(1:Int))∧∀az,az=sumLo G (4332616871279656263:Int) (0:Int)→∀N,N=sumHi G (4332616871279656263:Int) (0:Int)→((Wd I∧Wd (10917124144477883021:Int)∧0
 ≤N∧N≤1)∧∀a0,a0=sumLo I (10917124144477883021:Int) N→∀O,O=sumHi I (10917124144477883021:Int) N→((Wd L∧Wd (13281191951274694749:Int)∧0≤O∧O≤1)∧∀a1,a1=sumLo L (13281191951274694749:Int) O→∀Q,Q=
 sumHi L (13281191951274694749:Int) O→((Wd (18446744073709551615:Int)∧Wd (3486998266802970665:Int)∧0≤Q∧Q≤1)∧∀a2,a2=sumLo (18446744073709551615:Int) (3486998266802970665:Int) Q→∀a5,a5=sumHi
 (18446744073709551615:Int) (3486998266802970665:Int) Q→K (.tup []) (memL [(1,⟨false,.cells [.int .u64 (.sym az),.int .u64 (.sym a0),.int .u64 (.sym a1),.int .u64 (.sym a2)]⟩),(569,⟨false,.cells [.int .u64 (.lit 0),.int .u64
 (.sym j),.int .u64 (.sym k),.int .u64 (.sym l),.int .u64 (.sym m),.int .u64 (.sym n),.int .u64 (.sym o)]⟩)]))))))∧((am !=0)=false→K (.tup []) (memL [(1,⟨false,.cells [.int .u64 (.sym G),.int .u64 (.sym I),.int .u64 (.sym
 L),.int .u64 (.sym ay)]⟩),(569,⟨false,.cells [.int .u64 (.lit 0),.int .u64 (.sym j),.int .u64 (.sym k),.int .u64 (.sym l),.int .u64 (.sym m),.int .u64 (.sym n),.int .u64 (.sym o)]⟩)])))))))∧((p !=0)=false→K (.tup []) (memL
 [(1,⟨false,.cells [.int .u64 (.sym e),.int .u64 (.sym f),.int .u64 (.sym i),.int .u64 (.sym g)]⟩),(569,⟨false,.cells [.int .u64 (.lit 0),.int .u64 (.sym j),.int .u64 (.sym k),.int .u64 (.sym l),.int .u64 (.sym m),.int .u64
 (.sym n),.int .u64 (.sym o)]⟩)])))))))))))))))))))):=by kernel_rfl
theorem wdA {x a b c:Int} (h:x=m0v a b c):Wd x:=h ▸ m0v_wd _ _ _
theorem wdB {x a b c d:Int} (h:x=m2h a b c d):Wd x:=h ▸ m2h_wd _ _ _ _
theorem wdC {x a b c d:Int} (h:x=m2l a b c d):Wd x:=h ▸ m2l_wd _ _ _ _
theorem wdD {x a b c:Int} (h:x=sumLo a b c):Wd x:=h ▸ sumLo_wd _ _ _
theorem wdE {x a b c:Int} (h:x=difLo a b c):Wd x:=by rw[h];unfold difLo Wd;omega
theorem wdF {x a:Int} (h:x=IntKind.u64.wrap a):Wd x:=by rw[h,wu64];unfold Wd;omega
theorem btA {x a b c:Int} (h:x=sumHi a b c) (ha:Wd a) (hb:Wd b) (h0:0≤c) (h1:c≤1):0≤x∧x≤1:=h ▸ sumHi_le ha hb h0 h1
theorem btB {x a b c:Int} (h:x=difHi a b c):0≤x∧x≤1:=by rw[h];unfold difHi;split<;>omega
set_option maxHeartbeats 4000000 in
theorem mr_walk {z0 z1 z2 z3 h:Int} {K:SV→Mem→Prop} (w0:Wd z0) (w1:Wd z1) (w2:Wd z2) (w3:Wd z3) (hK:∀y0 y1 y2 y3,Wd y0→Wd y1→Wd y2→Wd y3→∀g,K (.tup []) (memL [(1,⟨false,w4 y0 y1 y2 y3⟩),(569,g)])):
  execF cxMr u0 Tryz.f159 64 [.ptr 1 (.lit 0),.ptr 1 (.lit 0),.int .u64 (.sym h)] (memL [(1,⟨false,w4 z0 z1 z2 z3⟩)]) K:=by
 rw[vc_mr]
 have q0:=wdq0
 have q1:=wdq1
 have q2:=wdq2
 have q3:=wdq3
 have c0:=wd0
 have c1:(0:Int)≤0:=Int.le_refl _
 have c2:(0:Int)≤1:=by decide
 have c3:Wd 9223372036854775808:=by unfold Wd;omega
 have c4:=wd_max
 repeat' first
  | assumption
  | exact hK _ _ _ _ (by assumption) (by assumption) (by assumption) (by assumption) _
  | apply And.intro
  | (intro x h;have w:=wdA h)
  | (intro x h;have w:=wdB h)
  | (intro x h;have w:=wdC h)
  | (intro x h;have w:=wdD h)
  | (intro x h;have w:=wdE h)
  | (intro x h;have w:=wdF h)
  | (intro x h;obtain ⟨_,_⟩:=btA h (by assumption) (by assumption) (by assumption) (by assumption))
  | (intro x h;obtain ⟨_,_⟩:=btB h)
  | intro _
def gMr:G0:=fun args l K=>
 match args,l with
 | [.ptr 1 (.lit 0),.ptr 1 (.lit 0),.int .u64 (.sym s)],[(1,⟨false,z⟩)]=>c4 z fun z0 z1 z2 z3=>((Wd z0∧Wd z1∧Wd z2∧Wd z3)∧∀y0 y1 y2 y3,(Wd y0∧Wd y1∧Wd y2∧Wd y3)→K (.tup []) (memL [(1,⟨false,w4 y0 y1 y2 y3⟩)]))
 | _,_=>False
theorem mr_good:Good gMr:=by
 constructor
 ·intro args l K K' hk h
  unfold gMr at h ⊢
  split at h
  ·exact c4_mono (fun _ _ _ _ h=>⟨h.1,fun y0 y1 y2 y3 hy=>hk _ _ (h.2 y0 y1 y2 y3 hy)⟩) h
  ·exact h.elim
 ·intro args l K h
  unfold gMr at h
  split at h
  ·obtain ⟨_,_,_,_,_,h⟩:=c4_ex h
   exact ⟨_,_,h.2 0 0 0 0 ⟨wd0,wd0,wd0,wd0⟩⟩
  ·exact h.elim
theorem mr_ok (args:List SV) (l:List (Nat×Reg)) (K:SV→Mem→Prop) (hup:KUp K) (h:gMr args l K):∃U,execF cxMr U Tryz.f159 64 args (memL l) K:=by
 unfold gMr at h
 split at h
 ·rename_i s zz
  obtain ⟨z0,z1,z2,z3,rfl,q0⟩:=c4_ex h
  exact ⟨u0,mr_walk q0.1.1 q0.1.2.1 q0.1.2.2.1 q0.1.2.2.2 fun y0 y1 y2 y3 h0 h1 h2 h3 g=>hup.le (memL_snoc rfl (by simp)) (q0.2 y0 y1 y2 y3 ⟨h0,h1,h2,h3⟩)⟩
 ·exact h.elim
def kMr:Ef Tryz.prog:=mkE mixed 159 Tryz.func159 (by decide) (by kernel_rfl) [] [.ptr 4 false,.ptr 4 true,.num] gMr mr_good mr_ok
def cxLn:Cx Tryz.prog:= { rds:= [],efs:= [kLc,kMr],eqs:= [] }
theorem vc_ln0 (z0 z1 z2 z3 b0 b1 b2 b3 y s:Int) (K:SV→Mem→Prop):(execF cxLn u0 Tryz.f130 64 [.ptr 1 (.lit 0),.ptr 1 (.lit 0),.int .i64 (.sym y),.ptr 9 (.lit 0),.int .i64 (.sym s)] (memL [(1,⟨false,w4 z0 z1 z2 z3⟩),(9,
 ⟨true,w4 b0 b1 b2 b3⟩)]) K)=((((Wd z0∧Wd z1∧Wd z2∧Wd z3)∧Wd b0∧Wd b1∧Wd b2∧Wd b3)∧I64 y∧I64 s)∧∀r,r=m5 (V4 z0 z1 z2 z3*y+V4 b0 b1 b2 b3*s)→((Wd (lm r 0)∧Wd (lm r 1)∧Wd (lm r 2)∧Wd (lm r 3))∧∀a b
 c d,Wd a∧Wd b∧Wd c∧Wd d→K (.tup []) (memL [(1,⟨false,w4 a b c d⟩),(9,⟨true,w4 b0 b1 b2 b3⟩)]))):=by kernel_rfl
theorem vc_ln1 (z0 z1 z2 z3 a0 a1 a2 a3 y s:Int) (K:SV→Mem→Prop):(execF cxLn u0 Tryz.f130 64 [.ptr 1 (.lit 0),.ptr 9 (.lit 0),.int .i64 (.sym y),.ptr 1 (.lit 0),.int .i64 (.sym s)] (memL [(1,⟨false,w4 z0 z1 z2 z3⟩),(9,
 ⟨true,w4 a0 a1 a2 a3⟩)]) K)=((((Wd a0∧Wd a1∧Wd a2∧Wd a3)∧Wd z0∧Wd z1∧Wd z2∧Wd z3)∧I64 y∧I64 s)∧∀r,r=m5 (V4 a0 a1 a2 a3*y+V4 z0 z1 z2 z3*s)→((Wd (lm r 0)∧Wd (lm r 1)∧Wd (lm r 2)∧Wd (lm r 3))∧∀a b
 c d,Wd a∧Wd b∧Wd c∧Wd d→K (.tup []) (memL [(1,⟨false,w4 a b c d⟩),(9,⟨true,w4 a0 a1 a2 a3⟩)]))):=by kernel_rfl
def gLn:G0:=fun args l K=>
 match args,l with
 | [.ptr 1 (.lit 0),.ptr 1 (.lit 0),.int .i64 (.sym y),.ptr 9 (.lit 0),.int .i64 (.sym s)],[(1,⟨false,rz⟩),(9,⟨true,rb⟩)]=>c4 rz fun z0 z1 z2 z3=>c4 rb fun b0 b1 b2 b3=>(((Wd z0∧Wd z1∧Wd z2∧Wd z3)∧(Wd b0∧Wd b1∧Wd b2∧Wd b3))∧I64 y∧I64 s)∧∀y0 y1 y2 y3,(Wd y0∧Wd y1∧Wd y2∧Wd y3)→K (.tup []) (memL [(1,⟨false,w4 y0 y1 y2 y3⟩),(9,⟨true,w4 b0 b1 b2 b3⟩)])
 | [.ptr 1 (.lit 0),.ptr 9 (.lit 0),.int .i64 (.sym y),.ptr 1 (.lit 0),.int .i64 (.sym s)],[(1,⟨false,rz⟩),(9,⟨true,ra⟩)]=>c4 rz fun z0 z1 z2 z3=>c4 ra fun a0 a1 a2 a3=>(((Wd a0∧Wd a1∧Wd a2∧Wd a3)∧(Wd z0∧Wd z1∧Wd z2∧Wd z3))∧I64 y∧I64 s)∧∀y0 y1 y2 y3,(Wd y0∧Wd y1∧Wd y2∧Wd y3)→K (.tup []) (memL [(1,⟨false,w4 y0 y1 y2 y3⟩),(9,⟨true,w4 a0 a1 a2 a3⟩)])
 | _,_=>False
theorem ln_good:Good gLn:=by
 constructor
 ·intro args l K K' hk h
  unfold gLn at h ⊢
  split at h
  ·exact c4_mono (fun _ _ _ _ h=>c4_mono (fun _ _ _ _ h=>⟨h.1,fun y0 y1 y2 y3 hy=>hk _ _ (h.2 y0 y1 y2 y3 hy)⟩) h) h
  ·exact c4_mono (fun _ _ _ _ h=>c4_mono (fun _ _ _ _ h=>⟨h.1,fun y0 y1 y2 y3 hy=>hk _ _ (h.2 y0 y1 y2 y3 hy)⟩) h) h
  ·exact h.elim
 ·intro args l K h
  unfold gLn at h
  split at h
  ·obtain ⟨_,_,_,_,_,h⟩:=c4_ex h
   obtain ⟨_,_,_,_,_,h⟩:=c4_ex h
   exact ⟨_,_,h.2 0 0 0 0 ⟨wd0,wd0,wd0,wd0⟩⟩
  ·obtain ⟨_,_,_,_,_,h⟩:=c4_ex h
   obtain ⟨_,_,_,_,_,h⟩:=c4_ex h
   exact ⟨_,_,h.2 0 0 0 0 ⟨wd0,wd0,wd0,wd0⟩⟩
  ·exact h.elim
theorem ln_ok (args:List SV) (l:List (Nat×Reg)) (K:SV→Mem→Prop) (hup:KUp K) (h:gLn args l K):∃U,execF cxLn U Tryz.f130 64 args (memL l) K:=by
 unfold gLn at h
 split at h
 ·rename_i y s rz rb
  obtain ⟨z0,z1,z2,z3,rfl,q0⟩:=c4_ex h
  obtain ⟨b0,b1,b2,b3,rfl,q1⟩:=c4_ex q0
  refine ⟨u0,?_⟩
  rw[vc_ln0 z0 z1 z2 z3 b0 b1 b2 b3 y s]
  exact ⟨q1.1,fun r _=>⟨⟨lm_wd _ _,lm_wd _ _,lm_wd _ _,lm_wd _ _⟩,q1.2⟩⟩
 ·rename_i y s rz ra
  obtain ⟨z0,z1,z2,z3,rfl,q0⟩:=c4_ex h
  obtain ⟨a0,a1,a2,a3,rfl,q1⟩:=c4_ex q0
  refine ⟨u0,?_⟩
  rw[vc_ln1 z0 z1 z2 z3 a0 a1 a2 a3 y s]
  exact ⟨q1.1,fun r _=>⟨⟨lm_wd _ _,lm_wd _ _,lm_wd _ _,lm_wd _ _⟩,q1.2⟩⟩
 ·exact h.elim
def kLn:Ef Tryz.prog:=mkE mixed 130 Tryz.func130 (by decide) (by kernel_rfl) [] [.ptr 4 false,.ptr 4 true,.num,.ptr 4 true,.num] gLn ln_good ln_ok
end Go.Sx
namespace Go.Num
def pr (f:Nat→Int):Nat→Int
 | 0=>1
 | m+1=>pr f m*f (m+1)
def sm (f:Nat→Nat):Nat→Nat
 | 0=>0
 | m+1=>sm f m+f (m+1)
theorem pr_congr {f g:Nat→Int}:∀ {m:Nat},(∀k,1≤k→k≤m→f k=g k)→pr f m=pr g m
 | 0,_=>rfl
 | m+1,h=>by rw[pr,pr,pr_congr fun k h1 h2=>h k h1 (Nat.le_succ_of_le h2),h (m+1) (Nat.succ_pos _) (Nat.le_refl _)]
theorem sm_congr {f g:Nat→Nat}:∀ {m:Nat},(∀k,1≤k→k≤m→f k=g k)→sm f m=sm g m
 | 0,_=>rfl
 | m+1,h=>by rw[sm,sm,sm_congr fun k h1 h2=>h k h1 (Nat.le_succ_of_le h2),h (m+1) (Nat.succ_pos _) (Nat.le_refl _)]
theorem pr_mul (f g:Nat→Int):∀m,pr (fun k=>f k*g k) m=pr f m*pr g m
 | 0=>rfl
 | m+1=>by
  rw[pr,pr,pr,pr_mul f g m]
  simp only[Int.mul_assoc,Int.mul_left_comm,Int.mul_comm]
theorem sm_add (f g:Nat→Nat):∀m,sm (fun k=>f k+g k) m=sm f m+sm g m
 | 0=>rfl
 | m+1=>by rw[sm,sm,sm,sm_add f g m];omega
theorem pr_const (c:Int):∀m,pr (fun _=>c) m=c ^ m
 | 0=>by rw[pr,Int.pow_zero]
 | m+1=>by rw[pr,pr_const c m,Int.pow_succ]
theorem sm_const (c:Nat):∀m,sm (fun _=>c) m=m*c
 | 0=>by rw[sm,Nat.zero_mul]
 | m+1=>by rw[sm,sm_const c m,Nat.succ_mul]
theorem sm_swap (f:Nat→Nat→Nat) (n:Nat):∀m,sm (fun k=>sm (f k) n) m=sm (fun j=>sm (fun k=>f k j) m) n
 | 0=>by
  show 0=sm (fun _=>0) n
  rw[sm_const,Nat.mul_zero]
 | m+1=>by
  rw[sm,sm_swap f n m,←sm_add]
  rfl
def up:Nat→List Nat
 | 0=> []
 | m+1=>(m+1)::up m
theorem mem_up:∀ {m k:Nat},k∈up m↔1≤k∧k≤m
 | 0,k=>by simp[up];omega
 | m+1,k=>by
  rw[up,List.mem_cons,mem_up]
  omega
theorem up_length:∀m,(up m).length=m
 | 0=>rfl
 | m+1=>by rw[up,List.length_cons,up_length m]
theorem up_nodup:∀m,(up m).Nodup
 | 0=>List.nodup_nil
 | m+1=>by
  rw[up,List.nodup_cons]
  exact ⟨fun h=>by have:=(mem_up.1 h).2;omega,up_nodup m⟩
def lp (l:List Int):Int:=l.foldr (· * ·) 1
def ls (l:List Nat):Nat:=l.foldr (· + ·) 0
theorem pr_list (f:Nat→Int):∀m,pr f m=lp ((up m).map f)
 | 0=>rfl
 | m+1=>by
  rw[pr,pr_list f m,Int.mul_comm]
  rfl
theorem sm_list (f:Nat→Nat):∀m,sm f m=ls ((up m).map f)
 | 0=>rfl
 | m+1=>by
  rw[sm,sm_list f m,Nat.add_comm]
  rfl
theorem lp_perm {a b:List Int} (h:a.Perm b):lp a=lp b:=by
 induction h with
 | nil=>rfl
 | cons x _ ih=>show x*lp _=x*lp _;rw[ih]
 | swap x y l=>show y*(x*lp l)=x*(y*lp l);rw[Int.mul_left_comm]
 | trans _ _ h1 h2=>exact h1.trans h2
theorem ls_perm {a b:List Nat} (h:a.Perm b):ls a=ls b:=by
 induction h with
 | nil=>rfl
 | cons x _ ih=>show x+ls _=x+ls _;rw[ih]
 | swap x y l=>show y+(x+ls l)=x+(y+ls l);omega
 | trans _ _ h1 h2=>exact h1.trans h2
theorem perm_sub:∀ {a b:List Nat},a.Nodup→(∀x∈a,x∈b)→b.length≤a.length→a.Perm b
 | [],b,_,_,hl=>by
  have:b= []:=List.length_eq_zero_iff.1 (Nat.le_zero.1 hl)
  rw[this]
 | x::a,b,hn,hs,hl=>by
  rw[List.nodup_cons]at hn
  have hx:x∈b:=hs x List.mem_cons_self
  have hp:=List.perm_cons_erase hx
  refine List.Perm.trans (List.Perm.cons x (perm_sub hn.2 ?_ ?_)) hp.symm
  ·intro y hy
   have:y≠x:=fun h=>hn.1 (h ▸ hy)
   exact (List.mem_erase_of_ne this).2 (hs y (List.mem_cons_of_mem _ hy))
  ·rw[List.length_erase_of_mem hx]
   simp only[List.length_cons]at hl
   omega
theorem up_perm {m:Nat} {s:Nat→Nat} (hs:∀k,1≤k→k≤m→1≤s k∧s k≤m) (hi:∀k j,1≤k→k≤m→1≤j→j≤m→s k=s j→k=j):((up m).map s).Perm (up m):=by
 refine perm_sub ?_ ?_ ?_
 ·rw[List.nodup_iff_pairwise_ne,List.pairwise_map]
  refine List.Pairwise.imp_of_mem ?_ (List.nodup_iff_pairwise_ne.1 (up_nodup m))
  intro a b ha hb hne h
  have ha:=mem_up.1 ha
  have hb:=mem_up.1 hb
  exact hne (hi a b ha.1 ha.2 hb.1 hb.2 h)
 ·intro x hx
  obtain ⟨k,hk,rfl⟩:=List.mem_map.1 hx
  have hk:=mem_up.1 hk
  exact mem_up.2 (hs k hk.1 hk.2)
 ·rw[List.length_map]
  exact Nat.le_refl _
theorem pr_perm {m:Nat} {s:Nat→Nat} (f:Nat→Int) (hs:∀k,1≤k→k≤m→1≤s k∧s k≤m) (hi:∀k j,1≤k→k≤m→1≤j→j≤m→s k=s j→k=j):pr (fun k=>f (s k)) m=pr f m:=by
 rw[pr_list,pr_list,show (fun k=>f (s k))=f ∘ s from rfl,←List.map_map]
 exact lp_perm ((up_perm hs hi).map f)
theorem sm_perm {m:Nat} {s:Nat→Nat} (f:Nat→Nat) (hs:∀k,1≤k→k≤m→1≤s k∧s k≤m) (hi:∀k j,1≤k→k≤m→1≤j→j≤m→s k=s j→k=j):sm (fun k=>f (s k)) m=sm f m:=by
 rw[sm_list,sm_list,show (fun k=>f (s k))=f ∘ s from rfl,←List.map_map]
 exact ls_perm ((up_perm hs hi).map f)
end Go.Num
namespace Go.Num
def rm (a:Int) (n k:Nat):Nat:=(a*k%n).toNat
def sk (a:Int) (n k:Nat):Nat:=if 2*rm a n k<n then rm a n k else n-rm a n k
def sg (a:Int) (n k:Nat):Int:=if 2*rm a n k<n then 1 else -1
def J (a:Int) (n:Nat):Int:=pr (sg a n) (n / 2)
theorem cop_dvd {n:Nat} {a x:Int} (hc:Nat.Coprime n a.natAbs) (h:(n:Int) ∣ a*x):(n:Int) ∣ x:=by
 rw[Int.ofNat_dvd_left]at h ⊢
 rw[Int.natAbs_mul]at h
 exact hc.dvd_of_dvd_mul_left h
theorem rm_spec {a:Int} {n k:Nat} (hn:0<n):((rm a n k:Nat):Int)=a*k%n∧rm a n k<n:=by
 have h0:=Int.emod_nonneg (a*k) (show (n:Int)≠0 by omega)
 have h1:=Int.emod_lt_of_pos (a*k) (show (0:Int)<n by omega)
 unfold rm
 omega
theorem rm_pos {a:Int} {n k:Nat} (hn:0<n) (hc:Nat.Coprime n a.natAbs) (h1:1≤k) (h2:k<n):0<rm a n k:=by
 obtain ⟨e,_⟩:=rm_spec (a:=a) (k:=k) hn
 apply Nat.pos_of_ne_zero
 intro h0
 rw[h0]at e
 have hd:(n:Int) ∣ a*k:=Int.dvd_of_emod_eq_zero e.symm
 have:=cop_dvd hc hd
 have:=Int.le_of_dvd (by omega) this
 omega
theorem sk_spec {a:Int} {n k:Nat} (hn:n%2=1) (hc:Nat.Coprime n a.natAbs) (h1:1≤k) (h2:k≤n / 2):
  (1≤sk a n k∧sk a n k≤n / 2)∧(sg a n k=1∨sg a n k= -1)∧∃t:Int,a*k=sg a n k*sk a n k+n*t:=by
 have hp:=rm_pos (a:=a) (k:=k) (by omega) hc h1 (by omega)
 obtain ⟨e,hl⟩:=rm_spec (a:=a) (n:=n) (k:=k) (by omega)
 have hd:=Int.emod_add_mul_ediv (a*k) n
 unfold sk sg
 split
 ·exact ⟨by omega,.inl rfl,a*k / n,by omega⟩
 ·refine ⟨by omega,.inr rfl,a*k / n+1,?_⟩
  rw[Int.mul_add,Int.mul_one]
  omega
theorem near_eq {n:Nat} {u v:Nat} (hn:n%2=1) (h1:1≤u) (h2:u≤n / 2) (h3:1≤v) (h4:v≤n / 2) (h:(n:Int) ∣ u-v∨(n:Int) ∣ u+v):u=v:=by
 rcases h with ⟨t,ht⟩ | ⟨t,ht⟩
 ·by_cases h0:t=0
  ·subst h0;omega
  ·exfalso
   have:(n:Int)≤n*t∨n*t≤ -(n:Int):=by
    rcases Int.lt_or_gt_of_ne h0 with h | h
    ·right
     have:=Int.mul_le_mul_of_nonneg_left (show t≤ -1 by omega) (show (0:Int)≤n by omega)
     omega
    ·left
     have:=Int.mul_le_mul_of_nonneg_left (show 1≤t by omega) (show (0:Int)≤n by omega)
     omega
   omega
 ·exfalso
  have h0:0<t:=by
   apply Int.pos_of_mul_pos_left (b:=(n:Int))
   ·rw[Int.mul_comm,←ht];omega
   ·omega
  have:=Int.mul_le_mul_of_nonneg_left (show 1≤t by omega) (show (0:Int)≤n by omega)
  omega
theorem sk_inj {a:Int} {n k j:Nat} (hn:n%2=1) (hc:Nat.Coprime n a.natAbs) (h1:1≤k) (h2:k≤n / 2) (h3:1≤j) (h4:j≤n / 2) (h:sk a n k=sk a n j):k=j:=by
 obtain ⟨_,s1,t1,e1⟩:=sk_spec hn hc h1 h2
 obtain ⟨_,s2,t2,e2⟩:=sk_spec hn hc h3 h4
 rw[h]at e1
 refine near_eq hn h1 h2 h3 h4 ?_
 by_cases hs:sg a n k=sg a n j
 ·left
  refine cop_dvd hc ⟨t1-t2,?_⟩
  rw[Int.mul_sub,Int.mul_sub,e1,e2,hs]
  omega
 ·right
  refine cop_dvd hc ⟨t1+t2,?_⟩
  have:sg a n k= - sg a n j:=by omega
  rw[Int.mul_add,Int.mul_add,e1,e2,this,Int.neg_mul]
  omega
theorem rm_congr {a b:Int} {n k j:Nat} (h:∃t:Int,a*k=b*j+n*t):rm a n k=rm b n j:=by
 obtain ⟨t,h⟩:=h
 unfold rm
 rw[h,Int.add_mul_emod_self_left]
theorem J_period {a:Int} {n:Nat} (t:Int):J (a+n*t) n=J a n:=by
 unfold J
 refine pr_congr fun k _ _=> ?_
 have:rm (a+n*t) n k=rm a n k:=rm_congr ⟨t*k,by rw[Int.add_mul,Int.mul_assoc]⟩
 unfold sg
 rw[this]
theorem sg_neg {a b:Int} {n k j:Nat} (hn:n%2=1) (hc:Nat.Coprime n a.natAbs) (h1:1≤k) (h2:k≤n / 2) (h:∃t:Int,a*k= -(b*j)+n*t):sg b n j= - sg a n k:=by
 have hp:=rm_pos (a:=a) (k:=k) (by omega) hc h1 (by omega)
 obtain ⟨e,hl⟩:=rm_spec (a:=a) (n:=n) (k:=k) (by omega)
 obtain ⟨t,h⟩:=h
 have e2:rm b n j=n-rm a n k:=by
  have hd:=Int.emod_add_mul_ediv (a*k) n
  have:b*j=((n:Int)-rm a n k)+n*((a*k / n)*(-1)+t-1):=by
   rw[Int.mul_sub,Int.mul_add,Int.mul_one,←Int.mul_assoc]
   omega
  show (b*j%n).toNat=_
  rw[this,Int.add_mul_emod_self_left,Int.emod_eq_of_lt (by omega) (by omega)]
  omega
 unfold sg
 rw[e2]
 split<;>split<;>first | rfl | omega
theorem J_mul {a b:Int} {n:Nat} (hn:n%2=1) (ha:Nat.Coprime n a.natAbs) (hb:Nat.Coprime n b.natAbs):J (a*b) n=J a n*J b n:=by
 have e:pr (sg (a*b) n) (n / 2)=pr (fun k=>sg a n (sk b n k)*sg b n k) (n / 2):=by
  refine pr_congr fun k h1 h2=> ?_
  obtain ⟨hs,hg,t,ht⟩:=sk_spec hn hb h1 h2
  rcases hg with hg | hg
  ·have:rm (a*b) n k=rm a n (sk b n k):=rm_congr ⟨a*t,by rw[Int.mul_assoc,ht,hg,Int.one_mul,Int.mul_add,Int.mul_left_comm]⟩
   rw[hg,Int.mul_one]
   unfold sg
   rw[this]
  ·rw[hg,Int.mul_neg,Int.mul_one]
   refine sg_neg hn ha hs.1 hs.2 ⟨a*t,?_⟩
   rw[Int.mul_assoc a b,ht,hg,Int.mul_add,Int.mul_left_comm a (n:Int) t,Int.neg_mul,Int.one_mul,Int.mul_neg]
   omega
 unfold J
 rw[e,pr_mul,pr_perm (sg a n) (fun k h1 h2=>(sk_spec hn hb h1 h2).1) (fun k j h1 h2 h3 h4 h=>sk_inj hn hb h1 h2 h3 h4 h)]
theorem J_one {n:Nat} (hn:n%2=1):J 1 n=1:=by
 unfold J
 rw[pr_congr (g:=fun _=>1),pr_const,Int.one_pow]
 intro k h1 h2
 have:rm 1 n k=k:=by
  unfold rm
  rw[Int.one_mul,Int.emod_eq_of_lt (by omega) (by omega)]
  omega
 unfold sg
 rw[this,if_pos (by omega)]
theorem J_neg_one {n:Nat} (hn:n%2=1):J (-1) n=(-1) ^ (n / 2):=by
 unfold J
 rw[pr_congr (g:=fun _=> -1),pr_const]
 intro k h1 h2
 have:rm (-1) n k=n-k:=by
  unfold rm
  rw[show (-1:Int)*k=((n:Int)-k)+n*(-1) by omega,Int.add_mul_emod_self_left,Int.emod_eq_of_lt (by omega) (by omega)]
  omega
 unfold sg
 rw[this,if_neg (by omega)]
theorem J_sq {a:Int} {n:Nat} (hn:n%2=1) (hc:Nat.Coprime n a.natAbs):J a n=1∨J a n= -1:=by
 unfold J
 have:∀m,m≤n / 2→pr (sg a n) m=1∨pr (sg a n) m= -1:=by
  intro m
  induction m with
  | zero=>intro _;exact .inl rfl
  | succ m ih=>
   intro h
   have i:=ih (by omega)
   have g:sg a n (m+1)=1∨sg a n (m+1)= -1:=(sk_spec hn hc (by omega) h).2.1
   rw[pr]
   rcases i with i | i<;>rcases g with g | g<;>rw[i,g]<;>decide
 exact this _ (Nat.le_refl _)
end Go.Num
namespace Go.Num
def Pri (p:Nat):Prop:=2≤p∧∀d,d ∣ p→d=1∨d=p
theorem Pri.cop {p k:Nat} (h:Pri p) (h1:0<k) (h2:k<p):Nat.Coprime p k:=by
 rcases h.2 _ (Nat.gcd_dvd_left p k)with e | e
 ·exact e
 ·exfalso
  have hd:=Nat.gcd_dvd_right p k
  rw[e]at hd
  have:=Nat.le_of_dvd h1 hd
  omega
theorem Pri.cop_of {p k:Nat} (h:Pri p) (hk:k%p≠0):Nat.Coprime p k:=by
 have h2:=h.1
 have:=h.cop (k:=k%p) (by omega) (Nat.mod_lt _ (by omega))
 rw[Nat.Coprime,Nat.gcd_comm,←Nat.gcd_rec]at this
 exact this
theorem pr_modeq {f g:Nat→Int} {n:Int}:∀ {m:Nat},(∀k,1≤k→k≤m→∃t,f k=g k+n*t)→∃t,pr f m=pr g m+n*t
 | 0,_=>⟨0,by simp[pr]⟩
 | m+1,h=>by
  obtain ⟨t,ht⟩:=pr_modeq (m:=m) fun k h1 h2=>h k h1 (Nat.le_succ_of_le h2)
  obtain ⟨u,hu⟩:=h (m+1) (Nat.succ_pos _) (Nat.le_refl _)
  refine ⟨t*g (m+1)+(pr g m+n*t)*u,?_⟩
  rw[pr,pr,ht,hu]
  grind
theorem cop_pr {n:Nat}:∀ {m:Nat},(∀k,1≤k→k≤m→Nat.Coprime n k)→Nat.Coprime n (pr (fun k=>(k:Int)) m).natAbs
 | 0,_=>by simp[pr]
 | m+1,h=>by
  rw[pr,Int.natAbs_mul]
  exact Nat.Coprime.mul_right (cop_pr fun k h1 h2=>h k h1 (Nat.le_succ_of_le h2)) (h (m+1) (Nat.succ_pos _) (Nat.le_refl _))
theorem euler {p:Nat} {a:Int} (hp:Pri p) (ho:p%2=1) (hc:Nat.Coprime p a.natAbs):∃t:Int,a ^ (p / 2)=J a p+p*t:=by
 have e1:pr (fun k=>a*k) (p / 2)=a ^ (p / 2)*pr (fun k=>(k:Int)) (p / 2):=by rw[pr_mul,pr_const]
 obtain ⟨t,e2⟩:=pr_modeq (f:=fun k=>a*k) (g:=fun k=>sg a p k*sk a p k) (n:=p) (m:=p / 2) fun k h1 h2=>(sk_spec ho hc h1 h2).2.2
 rw[e1,pr_mul (sg a p) (fun k=>((sk a p k:Nat):Int)) (p / 2),pr_perm (fun k=>(k:Int)) (fun k h1 h2=>(sk_spec ho hc h1 h2).1) (fun k j h1 h2 h3 h4 h=>sk_inj ho hc h1 h2 h3 h4 h)]at e2
 have hd:(p:Int) ∣ pr (fun k=>(k:Int)) (p / 2)*(a ^ (p / 2)-J a p):=⟨t,by unfold J;rw[Int.mul_sub];grind⟩
 obtain ⟨u,hu⟩:=cop_dvd (cop_pr fun k h1 h2=>hp.cop (by omega) (by have:=hp.1;omega)) hd
 exact ⟨u,by omega⟩
theorem euler_mod {p:Nat} {a:Nat} (hp:Pri p) (ho:p%2=1) (hc:a%p≠0):(J a p=1∧a ^ (p / 2)%p=1)∨(J a p= -1∧a ^ (p / 2)%p=p-1):=by
 have h2:=hp.1
 have cc:Nat.Coprime p (a:Int).natAbs:=hp.cop_of hc
 obtain ⟨t,ht⟩:=euler hp ho cc
 have e:(((a ^ (p / 2)%p:Nat)):Int)=J a p%p:=by
  rw[Int.natCast_emod,Int.natCast_pow,ht,Int.add_mul_emod_self_left]
 rcases J_sq ho cc with h | h
 ·left
  refine ⟨h,?_⟩
  rw[h,Int.emod_eq_of_lt (by omega) (by omega)]at e
  omega
 ·right
  refine ⟨h,?_⟩
  rw[h,show (-1:Int)=((p:Int)-1)+p*(-1) by omega,Int.add_mul_emod_self_left,Int.emod_eq_of_lt (by omega) (by omega)]at e
  omega
theorem fermat {p a:Nat} (hp:Pri p) (hc:a%p≠0):a ^ (p-1)%p=1:=by
 have h2:=hp.1
 rcases Nat.mod_two_eq_zero_or_one p with h | ho
 ·have:p=2:=by
   rcases hp.2 2 (Nat.dvd_of_mod_eq_zero h)with e | e<;>omega
  subst this
  rw[Nat.pow_one]
  omega
 ·have e:p-1=p / 2+p / 2:=by omega
  rw[e,Nat.pow_add,Nat.mul_mod]
  rcases euler_mod hp ho hc with ⟨_,h⟩ | ⟨_,h⟩<;>rw[h]
  ·rw[Nat.one_mul,Nat.mod_eq_of_lt (by omega)]
  ·obtain ⟨u,rfl⟩:∃u,p=u+2:=⟨p-2,by omega⟩
   rw[show u+2-1=u+1 by omega,show (u+1)*(u+1)=1+(u+2)*u by grind,Nat.add_mul_mod_self_left,Nat.mod_eq_of_lt (by omega)]
def pw (n:Nat):Nat→Nat→Nat→Nat
 | 0,_,_=>1%n
 | f+1,a,e=>if e%2=1 then a*pw n f (a*a%n) (e / 2)%n else pw n f (a*a%n) (e / 2)
theorem pw_eq {n:Nat}:∀ {f a e:Nat},e<2 ^ f→pw n f a e=a ^ e%n
 | 0,a,e,h=>by
  have:e=0:=by simpa using h
  rw[this,pw,Nat.pow_zero]
 | f+1,a,e,h=>by
  have ih:=pw_eq (n:=n) (f:=f) (a:=a*a%n) (e:=e / 2) (by rw[Nat.pow_succ]at h;omega)
  have sq:a ^ (2*(e / 2))=(a*a) ^ (e / 2):=by rw[Nat.pow_mul,Nat.pow_two]
  rw[pw,ih,←Nat.pow_mod]
  split
  ·rename_i ho
   have:e=2*(e / 2)+1:=by omega
   conv=>rhs;rw[this,Nat.pow_succ,sq]
   rw[Nat.mul_mod_mod,Nat.mul_comm]
  ·rename_i ho
   have:e=2*(e / 2):=by omega
   conv=>rhs;rw[this,sq]
theorem pow_gcd {r x:Nat}:∀a b:Nat,x ^ a%r=1%r→x ^ b%r=1%r→x ^ Nat.gcd a b%r=1%r:=by
 intro a b
 induction a,b using Nat.gcd.induction with
 | H0 n=>intro _ h;rw[Nat.gcd_zero_left];exact h
 | H1 m n _ ih=>
  intro h1 h2
  rw[Nat.gcd_rec]
  refine ih ?_ h1
  have e:x ^ n%r=x ^ (n%m)%r:=by
   conv=>lhs;rw[←Nat.div_add_mod n m,Nat.pow_add,Nat.pow_mul,Nat.mul_mod,Nat.pow_mod,h1,←Nat.pow_mod,Nat.one_pow]
   rw[←Nat.mul_mod,Nat.one_mul]
  rw[←e]
  exact h2
theorem least_div:∀(n:Nat),2≤n→∃r,Pri r∧r ∣ n:=by
 intro n
 induction n using Nat.strongRecOn with
 | _ n ih=>
  intro h
  by_cases hp:Pri n
  ·exact ⟨n,hp,Nat.dvd_refl _⟩
  ·have:∃d,d ∣ n∧d≠1∧d≠n:=by
    apply Classical.byContradiction
    intro hn
    apply hp
    refine ⟨h,fun d hd=> ?_⟩
    by_cases h1:d=1
    ·exact .inl h1
    ·by_cases h2:d=n
     ·exact .inr h2
     ·exact absurd ⟨d,hd,h1,h2⟩ hn
   obtain ⟨d,hd,h1,h2⟩:=this
   have hle:=Nat.le_of_dvd (by omega) hd
   have h0:d≠0:=fun e=>by rw[e,Nat.zero_dvd]at hd;omega
   obtain ⟨r,hr,hrd⟩:=ih d (by omega) (by omega)
   exact ⟨r,hr,Nat.dvd_trans hrd hd⟩
theorem pock1 {N p a c r:Nat} (hp:Pri p) (hN:N=p*c+1) (h1:a ^ (p*c)%N=1) (h2:Nat.gcd (a ^ c%N+(N-1)) N=1) (hr:Pri r) (hrN:r ∣ N):p ∣ r-1:=by
 have hr2:=hr.1
 have hN0:0<N:=by omega
 have hrle:=Nat.le_of_dvd hN0 hrN
 obtain ⟨k,hk⟩:=hrN
 have m1:(a ^ c) ^ p%r=1%r:=by
  rw[←Nat.pow_mul,Nat.mul_comm c p]
  have:a ^ (p*c)%N%r=1%r:=by rw[h1]
  rw[hk,Nat.mod_mul_right_mod]at this
  exact this
 have ha:(a ^ c)%r≠0:=by
  intro h
  rw[Nat.pow_mod,h,Nat.zero_pow (by have:=hp.1;omega),Nat.zero_mod,Nat.mod_eq_of_lt (by omega)]at m1
  omega
 have m2:(a ^ c) ^ (r-1)%r=1%r:=by
  rw[fermat hr ha,Nat.mod_eq_of_lt (by omega)]
 have m3:=pow_gcd _ _ m1 m2
 rcases hp.2 _ (Nat.gcd_dvd_left p (r-1))with e | e
 ·exfalso
  rw[e,Nat.pow_one,Nat.mod_eq_of_lt (show 1<r by omega)]at m3
  have hx:a ^ c%N%r=1:=by rw[hk,Nat.mod_mul_right_mod];exact m3
  have d1:r ∣ a ^ c%N+(N-1):=by
   apply Nat.dvd_of_mod_eq_zero
   have hn:(N-1+1)%r=0:=by
    rw[show N-1+1=N by omega,hk]
    exact Nat.mul_mod_right r k
   rw[Nat.add_mod,hx]
   rw[Nat.add_mod,Nat.mod_eq_of_lt (show 1<r by omega)]at hn
   rw[Nat.add_comm]
   exact hn
  have:=Nat.dvd_gcd d1 (show r ∣ N from ⟨k,hk⟩)
  rw[h2]at this
  have:=Nat.le_of_dvd (by omega) this
  omega
 ·rw[←e]
  exact Nat.gcd_dvd_right _ _
theorem small_div {N:Nat} (h2:2≤N) (hn:¬Pri N):∃r,Pri r∧r ∣ N∧r*r≤N:=by
 have:∃d,d ∣ N∧d≠1∧d≠N:=by
  apply Classical.byContradiction
  intro h
  apply hn
  refine ⟨h2,fun d hd=> ?_⟩
  by_cases h1:d=1
  ·exact .inl h1
  ·by_cases h2:d=N
   ·exact .inr h2
   ·exact absurd ⟨d,hd,h1,h2⟩ h
 obtain ⟨d,⟨e,he⟩,h1,h2'⟩:=this
 have he0:e≠0:=fun h=>by rw[h,Nat.mul_zero]at he;omega
 have hd0:d≠0:=fun h=>by rw[h,Nat.zero_mul]at he;omega
 have he1:e≠1:=fun h=>by rw[h,Nat.mul_one]at he;omega
 have key:∀u v,u*v=N→2≤u→u≤v→∃r,Pri r∧r ∣ N∧r*r≤N:=by
  intro u v huv hu hle
  obtain ⟨r,hr,hru⟩:=least_div u hu
  have hru':=Nat.le_of_dvd (by omega) hru
  exact ⟨r,hr,Nat.dvd_trans hru ⟨v,huv.symm⟩,by rw[←huv];exact Nat.mul_le_mul hru' (by omega)⟩
 rcases Nat.le_total d e with h | h
 ·exact key d e he.symm (by omega) h
 ·exact key e d (by rw[Nat.mul_comm];exact he.symm) (by omega) h
theorem pock {N F:Nat} (h2:2≤N) (hF:N<F*F) (h:∀r,Pri r→r ∣ N→F ∣ r-1):Pri N:=by
 apply Classical.byContradiction
 intro hn
 obtain ⟨r,hr,hrN,hle⟩:=small_div h2 hn
 have hr2:=hr.1
 have:=Nat.le_of_dvd (by omega) (h r hr hrN)
 have:F*F≤r*r:=Nat.mul_le_mul (by omega) (by omega)
 omega
theorem cop_primes {p q:Nat} (hp:Pri p) (hq:Pri q) (h:p≠q):Nat.Coprime p q:=by
 rcases hp.2 _ (Nat.gcd_dvd_left p q)with e | e
 ·exact e
 ·have hd:=Nat.gcd_dvd_right p q
  rw[e]at hd
  have:=hp.1
  rcases hq.2 p hd with h' | h'<;>omega
def trial (n:Nat):Nat→Nat→Bool
 | 0,_=>false
 | f+1,d=>if n<d*d then true else if n%d=0 then false else trial n f (d+1)
theorem trial_pri {n:Nat} (h2:2≤n) (h:∀d,2≤d→d*d≤n→n%d≠0):Pri n:=by
 apply Classical.byContradiction
 intro hn
 obtain ⟨r,hr,hrN,hle⟩:=small_div h2 hn
 exact h r hr.1 hle (Nat.mod_eq_zero_of_dvd hrN)
theorem trial_ok {n:Nat}:∀ {f d:Nat},trial n f d=true→∀e,d≤e→e*e≤n→n%e≠0
 | 0,_,h,_,_,_=>by cases h
 | f+1,d,h,e,h1,h2=>by
  rw[trial]at h
  split at h
  ·rename_i hd
   have:d*d≤e*e:=Nat.mul_le_mul h1 h1
   omega
  ·split at h
   ·cases h
   ·rename_i hm
    by_cases he:e=d
    ·rw[he];exact hm
    ·exact trial_ok h e (by omega) h2
theorem pri_by_trial {n:Nat} (h2:2≤n) (h:trial n n 2=true):Pri n:=trial_pri h2 fun d h1 h3=>trial_ok h d h1 h3
theorem pock1' {N p a c:Nat} {r:Nat} (hp:Pri p) (hN:N=p*c+1) (f:Nat) (hf:p*c<2 ^ f) (h1:pw N f a (p*c)=1) (h2:Nat.gcd (pw N f a c+(N-1)) N=1) (hr:Pri r) (hrN:r ∣ N):p ∣ r-1:=by
 rw[pw_eq hf]at h1
 rw[pw_eq (Nat.lt_of_le_of_lt (Nat.le_mul_of_pos_left c (by have:=hp.1;omega)) hf)]at h2
 exact pock1 hp hN h1 h2 hr hrN
theorem pri_13327:Pri 13327:=pri_by_trial (by decide) (by decide +kernel)
theorem pri_3557:Pri 3557:=pri_by_trial (by decide) (by decide +kernel)
theorem pri_911:Pri 911:=pri_by_trial (by decide) (by decide +kernel)
theorem pri_a:Pri 173171039:=pock (F:=13327) (by decide) (by decide) fun r hr hd=>
 pock1' (a:=2) (c:=(173171039-1) / 13327) pri_13327 (by decide +kernel) 28 (by decide +kernel) (by decide +kernel) (by decide +kernel) hr hd
theorem pri_b:Pri 1263766531:=pock (F:=3557*911) (by decide) (by decide) fun r hr hd=>
 Nat.Coprime.mul_dvd_of_dvd_of_dvd (cop_primes pri_3557 pri_911 (by decide))
  (pock1' (a:=2) (c:=(1263766531-1) / 3557) pri_3557 (by decide +kernel) 31 (by decide +kernel) (by decide +kernel) (by decide +kernel) hr hd)
  (pock1' (a:=2) (c:=(1263766531-1) / 911) pri_911 (by decide +kernel) 31 (by decide +kernel) (by decide +kernel) (by decide +kernel) hr hd)
theorem pri_c:Pri 35385462869:=pock (F:=1263766531) (by decide) (by decide) fun r hr hd=>
 pock1' (a:=2) (c:=(35385462869-1) / 1263766531) pri_b (by decide +kernel) 36 (by decide +kernel) (by decide +kernel) (by decide +kernel) hr hd
theorem pri_d:Pri 2480874801745591:=pock (F:=35385462869) (by decide) (by decide) fun r hr hd=>
 pock1' (a:=2) (c:=(2480874801745591-1) / 35385462869) pri_c (by decide +kernel) 52 (by decide +kernel) (by decide +kernel) (by decide +kernel) hr hd
theorem pri_e:Pri 13427688667394608761327070753331941386769:=pock (F:=2480874801745591*173171039) (by decide) (by decide) fun r hr hd=>
 Nat.Coprime.mul_dvd_of_dvd_of_dvd (cop_primes pri_d pri_a (by decide))
  (pock1' (a:=2) (c:=(13427688667394608761327070753331941386769-1) / 2480874801745591) pri_d (by decide +kernel) 134 (by decide +kernel) (by decide +kernel) (by decide +kernel) hr hd)
  (pock1' (a:=2) (c:=(13427688667394608761327070753331941386769-1) / 173171039) pri_a (by decide +kernel) 134 (by decide +kernel) (by decide +kernel) (by decide +kernel) hr hd)
theorem pri_q:Pri 21888242871839275222246405745257275088696311157297823662689037894645226208583:=pock (F:=13427688667394608761327070753331941386769) (by decide) (by decide) fun r hr hd=>
 pock1' (a:=2) (c:=(21888242871839275222246405745257275088696311157297823662689037894645226208583-1) / 13427688667394608761327070753331941386769) pri_e (by decide +kernel) 254 (by decide +kernel) (by decide +kernel) (by decide +kernel) hr hd
end Go.Num
namespace Go.Num
def ps (t:Nat):Int:=if t%2=0 then 1 else -1
theorem ps_add (a b:Nat):ps (a+b)=ps a*ps b:=by
 unfold ps
 rcases Nat.mod_two_eq_zero_or_one a with h | h<;>rcases Nat.mod_two_eq_zero_or_one b with g | g<;>rw[Nat.add_mod,h,g]<;>decide
theorem ps_mod {a b:Nat} (h:a%2=b%2):ps a=ps b:=by unfold ps;rw[h]
theorem ps_pow:∀t,ps t=(-1) ^ t
 | 0=>rfl
 | t+1=>by rw[ps_add,ps_pow t,Int.pow_succ];rfl
theorem pr_ps (f:Nat→Nat):∀m,pr (fun k=>ps (f k)) m=ps (sm f m)
 | 0=>rfl
 | m+1=>by rw[pr,sm,pr_ps f m,ps_add]
theorem J_neg {n:Nat} (hn:n%2=1):J (-1) n=ps (n / 2):=by rw[J_neg_one hn,ps_pow]
theorem J_two {n:Nat} (hn:n%2=1):J 2 n=if n%8=3∨n%8=5 then -1 else 1:=by
 have key:∀m,m≤n / 2→pr (sg 2 n) m=ps (m-n / 4):=by
  intro m
  induction m with
  | zero=>intro _;rw[pr,Nat.zero_sub];rfl
  | succ m ih=>
   intro h
   rw[pr,ih (by omega)]
   have hr:rm 2 n (m+1)=2*(m+1):=by
    unfold rm
    rw[Int.emod_eq_of_lt (by omega) (by omega)]
    omega
   unfold sg
   rw[hr]
   split
   ·rw[show m-n / 4=0 by omega,show m+1-n / 4=0 by omega,Int.mul_one]
   ·rw[show m+1-n / 4=(m-n / 4)+1 by omega,ps_add]
    rfl
 unfold J
 rw[key _ (Nat.le_refl _)]
 unfold ps
 split<;>split<;>first | rfl | omega
def ep (m n k:Nat):Nat:=if 2*rm m n k<n then 0 else 1
theorem sm_mod {f g:Nat→Nat}:∀ {m:Nat},(∀k,1≤k→k≤m→f k%2=g k%2)→sm f m%2=sm g m%2
 | 0,_=>rfl
 | m+1,h=>by
  rw[sm,sm,Nat.add_mod,sm_mod fun k h1 h2=>h k h1 (Nat.le_succ_of_le h2),h (m+1) (Nat.succ_pos _) (Nat.le_refl _),←Nat.add_mod]
theorem J_floor {m n:Nat} (hm:m%2=1) (hn:n%2=1) (hc:Nat.Coprime n m):J m n=ps (sm (fun k=>m*k / n) (n / 2)):=by
 have hc':Nat.Coprime n (m:Int).natAbs:=hc
 have e1:J m n=ps (sm (ep m n) (n / 2)):=by
  unfold J
  rw[←pr_ps]
  refine pr_congr fun k _ _=> ?_
  unfold sg ep
  split<;>rfl
 rw[e1]
 apply ps_mod
 have hk:∀k,1≤k→k≤n / 2→k%2=(m*k / n+(sk m n k+ep m n k))%2:=by
  intro k h1 h2
  obtain ⟨e,hl⟩:=rm_spec (a:=(m:Int)) (n:=n) (k:=k) (by omega)
  have er:rm m n k=m*k%n:=by
   have:((m*k%n:Nat):Int)=(m:Int)*k%n:=by rw[Int.natCast_emod,Int.natCast_mul]
   omega
  have hd:=Nat.div_add_mod (m*k) n
  rw[←er]at hd
  have h3:(m*k)%2=k%2:=by rw[Nat.mul_mod,hm,Nat.one_mul,Nat.mod_mod]
  have h4:(n*(m*k / n))%2=(m*k / n)%2:=by rw[Nat.mul_mod,hn,Nat.one_mul,Nat.mod_mod]
  unfold sk ep
  split<;>omega
 have s:=sm_mod (m:=n / 2) (f:=fun k=>k) (g:=fun k=>m*k / n+(sk m n k+ep m n k)) hk
 rw[sm_add,sm_add,sm_perm (fun k=>k) (fun k h1 h2=>(sk_spec hn hc' h1 h2).1) (fun k j h1 h2 h3 h4 h=>sk_inj hn hc' h1 h2 h3 h4 h)]at s
 omega
theorem count_le {n:Nat} (hn:0<n) (y:Nat):∀M,sm (fun j=>if n*j≤y then 1 else 0) M=min M (y / n)
 | 0=>by rw[sm,Nat.zero_min]
 | M+1=>by
  rw[sm,count_le hn y M]
  have:n*(M+1)≤y↔M+1≤y / n:=by rw[Nat.le_div_iff_mul_le hn,Nat.mul_comm]
  split<;>omega
theorem floor_le {m n k:Nat} (hm:m%2=1) (hn:n%2=1) (h:k≤n / 2):m*k / n≤m / 2:=by
 apply Nat.le_of_lt_succ
 rw[Nat.div_lt_iff_lt_mul (by omega)]
 obtain ⟨M,rfl⟩:∃M,m=2*M+1:=⟨m / 2,by omega⟩
 obtain ⟨N,rfl⟩:∃N,n=2*N+1:=⟨n / 2,by omega⟩
 have hk:(2*M+1)*k≤(2*M+1)*N:=Nat.mul_le_mul_left _ (by omega)
 have e:(2*M+1) / 2=M:=by omega
 have h2:(M+1)*(2*N+1)=(2*M+1)*N+(M+N+1):=by grind
 rw[e]
 show _<(M+1)*(2*N+1)
 omega
theorem lattice {m n:Nat} (hm:m%2=1) (hn:n%2=1) (hc:Nat.Coprime n m):sm (fun k=>m*k / n) (n / 2)+sm (fun j=>n*j / m) (m / 2)=(n / 2)*(m / 2):=by
 have e1:sm (fun k=>m*k / n) (n / 2)=sm (fun k=>sm (fun j=>if n*j≤m*k then 1 else 0) (m / 2)) (n / 2):=by
  refine sm_congr fun k _ h=> ?_
  rw[count_le (by omega),Nat.min_eq_right (floor_le hm hn h)]
 have e2:sm (fun j=>n*j / m) (m / 2)=sm (fun j=>sm (fun k=>if m*k≤n*j then 1 else 0) (n / 2)) (m / 2):=by
  refine sm_congr fun j _ h=> ?_
  rw[count_le (by omega),Nat.min_eq_right (floor_le hn hm h)]
 rw[e1,e2,sm_swap (fun j k=>if m*k≤n*j then 1 else 0),←sm_add,←sm_const (m / 2)]
 refine sm_congr fun k hk1 hk2=> ?_
 rw[←sm_add]
 have e3:sm (fun _=>1) (m / 2)=m / 2:=by rw[sm_const,Nat.mul_one]
 refine Eq.trans (sm_congr (g:=fun _=>1) fun j hj1 hj2=> ?_) e3
 have hne:n*j≠m*k:=by
  intro h
  have hd:n ∣ m*k:=⟨j,h.symm⟩
  have:=Nat.le_of_dvd (by omega) (hc.dvd_of_dvd_mul_left hd)
  omega
 split<;>split<;>omega
theorem recip {m n:Nat} (hm:m%2=1) (hn:n%2=1) (hc:Nat.Coprime n m):J m n*J n m=ps ((n / 2)*(m / 2)):=by
 rw[J_floor hm hn hc,J_floor hn hm hc.symm,←ps_add,lattice hm hn hc]
theorem ps_prod {a b:Nat}:ps (a*b)=if a%2=1∧b%2=1 then -1 else 1:=by
 unfold ps
 rcases Nat.mod_two_eq_zero_or_one a with h | h<;>rcases Nat.mod_two_eq_zero_or_one b with g | g<;>rw[Nat.mul_mod,h,g]<;>decide
theorem recip' {m n:Nat} (hm:m%2=1) (hn:n%2=1) (hc:Nat.Coprime n m):J m n=if m%4=3∧n%4=3 then-J n m else J n m:=by
 have h:=recip hm hn hc
 rw[ps_prod]at h
 have s1:=J_sq (a:=(m:Int)) hn hc
 have s2:=J_sq (a:=(n:Int)) hm hc.symm
 have e:(n / 2%2=1∧m / 2%2=1)↔(m%4=3∧n%4=3):=by omega
 simp only[e]at h
 split at h<;>rcases s1 with s1 | s1<;>rcases s2 with s2 | s2<;>rw[s1,s2]at h ⊢ <;>simp_all
end Go.Num
namespace Go.Num
def K (a b:Int):Int:=J a b.natAbs
def e2 (y:Int):Int:=if y%8=3∨y%8=5 then -1 else 1
def e4 (x y:Int):Int:=if x%4=3∧y%4=3 then -1 else 1
def Cop (a b:Int):Prop:=Nat.Coprime b.natAbs a.natAbs
theorem Cop.symm {a b:Int} (h:Cop a b):Cop b a:=Nat.Coprime.symm h
theorem Cop.of_dvd {a b c d:Int} (h:Cop a b) (hd:∀n:Nat,(n:Int) ∣ c→(n:Int) ∣ d→(n:Int) ∣ a∧(n:Int) ∣ b):Cop c d:=by
 unfold Cop Nat.Coprime at *
 have h1:((Nat.gcd d.natAbs c.natAbs:Nat):Int) ∣ c:=Int.ofNat_dvd_left.2 (Nat.gcd_dvd_right _ _)
 have h2:((Nat.gcd d.natAbs c.natAbs:Nat):Int) ∣ d:=Int.ofNat_dvd_left.2 (Nat.gcd_dvd_left _ _)
 obtain ⟨h3,h4⟩:=hd _ h1 h2
 have:=Nat.dvd_gcd (Int.ofNat_dvd_left.1 h4) (Int.ofNat_dvd_left.1 h3)
 rw[h]at this
 exact Nat.dvd_one.1 this
theorem Cop.half {a b:Int} (h:Cop (2*a) b):Cop a b:=h.of_dvd fun _ h1 h2=>⟨Int.dvd_trans h1 (Int.dvd_mul_left _ _),h2⟩
theorem Cop.sub {a b:Int} (h:Cop a b):Cop (a-b) b:=h.of_dvd fun _ h1 h2=>⟨by have:=Int.dvd_add h1 h2;rwa [Int.sub_add_cancel]at this,h2⟩
theorem K_half {a b:Int} (hb:b%2=1) (h:Cop (2*a) b):K (2*a) b=e2 b*K a b:=by
 have hn:b.natAbs%2=1:=by omega
 have c2:Nat.Coprime b.natAbs (2:Int).natAbs:=by
  show Nat.Coprime b.natAbs 2
  rw[Nat.Coprime,Nat.gcd_comm,Nat.gcd_rec,hn]
  rfl
 unfold K
 rw[J_mul hn c2 h.half,J_two hn]
 unfold e2
 congr 1
 split<;>split<;>first | rfl | omega
theorem K_sub {a b:Int}:K (a-b) b=K a b:=by
 unfold K
 rcases Int.natAbs_eq b with e | e
 ·have:a-b=a+(b.natAbs:Int)*(-1):=by omega
  rw[this,J_period]
 ·have:a-b=a+(b.natAbs:Int)*1:=by omega
  rw[this,J_period]
theorem J_minus {n:Nat} {a:Int} (hn:n%2=1) (hc:Nat.Coprime n a.natAbs):J (-a) n=(if n%4=3 then -1 else 1)*J a n:=by
 have c1:Nat.Coprime n (-1:Int).natAbs:=Nat.coprime_one_right n
 rw[show -a= -1*a by omega,J_mul hn c1 hc,J_neg hn]
 unfold ps
 congr 1
 split<;>split<;>first | rfl | omega
theorem K_minus {a b:Int} (hb:b%2=1) (h0:0<b) (h:Cop a b):K (-a) b=(if b%4=3 then -1 else 1)*K a b:=by
 unfold K
 rw[J_minus (by omega) h]
 congr 1
 split<;>split<;>first | rfl | omega
theorem K_swap {a b:Int} (ha:a%2=1) (hb:b%2=1) (hs:¬(a<0∧b<0)) (h:Cop a b):K a b=e4 a b*K b a:=by
 have h1:Nat.Coprime b.natAbs a.natAbs:=h
 have r:=recip' (m:=a.natAbs) (n:=b.natAbs) (by omega) (by omega) h1
 have r':=recip' (m:=b.natAbs) (n:=a.natAbs) (by omega) (by omega) h1.symm
 unfold K e4
 by_cases pa:0≤a
 ·rw[show ((a.natAbs:Nat):Int)=a by omega]at r r'
  by_cases pb:0≤b
  ·rw[show ((b.natAbs:Nat):Int)=b by omega]at r r'
   rw[r]
   split<;>split<;>first | omega | rw[Int.neg_mul,Int.one_mul] | rw[Int.one_mul]
  ·rw[show ((b.natAbs:Nat):Int)= -b by omega]at r r'
   have m:=J_minus (n:=a.natAbs) (a:=b) (by omega) h1.symm
   rw[m]at r
   rw[r]
   split<;>split<;>split<;>first | omega | (simp only[Int.neg_mul,Int.one_mul,Int.neg_neg])
 ·rw[show ((a.natAbs:Nat):Int)= -a by omega]at r r'
  rw[show ((b.natAbs:Nat):Int)=b by omega]at r r'
  have m:=J_minus (n:=b.natAbs) (a:=a) (by omega) h1
  rw[m]at r'
  rw[r']
  split<;>split<;>split<;>first | omega | (simp only[Int.neg_mul,Int.one_mul,Int.neg_neg])
structure PS where
 x:Nat
 y:Nat
 f0:Int
 g0:Int
 f1:Int
 g1:Int
def pstep (s:PS):PS:=
 if s.x%2=0 then ⟨s.x / 2,s.y,s.f0,s.g0,2*s.f1,2*s.g1⟩
 else if s.x<s.y then ⟨(s.y-s.x) / 2,s.x,s.f1-s.f0,s.g1-s.g0,2*s.f0,2*s.g0⟩
 else ⟨(s.x-s.y) / 2,s.y,s.f0-s.f1,s.g0-s.g1,2*s.f1,2*s.g1⟩
def psgn (s:PS):Int:=
 if s.x%2=0 then e2 s.y
 else if s.x<s.y then e4 s.x s.y*e2 s.x
 else e2 s.y
structure Lin (p x0 y0:Nat) (s:PS):Prop where
 lx:(p:Int)*(s.x:Int)=s.f0*x0+s.g0*y0
 ly:(p:Int)*(s.y:Int)=s.f1*x0+s.g1*y0
 odd:s.y%2=1
 s0:s.f0.natAbs+s.g0.natAbs≤p
 s1:s.f1.natAbs+s.g1.natAbs≤p
 lo: -(p:Int)<s.f0∧ -(p:Int)<s.g0∧ -(p:Int)<s.f1∧ -(p:Int)<s.g1
 le:s.x+s.y≤x0+y0
 sum:(s.f0=1∧s.g0=0∧s.f1=0∧s.g1=p)∨2*(s.x+s.y)≤x0+y0
theorem Lin.start {x0 y0:Nat} (h:y0%2=1):Lin 1 x0 y0 ⟨x0,y0,1,0,0,1⟩:=
 ⟨by simp,by simp,h,by simp,by simp,by simp,Nat.le_refl _,.inl ⟨rfl,rfl,rfl,rfl⟩⟩
theorem Lin.step {p x0 y0:Nat} {s:PS} (h:Lin p x0 y0 s):Lin (2*p) x0 y0 (pstep s):=by
 obtain ⟨lx,ly,odd,s0,s1,⟨l0,l1,l2,l3⟩,le,sum⟩:=h
 have e':((2*p:Nat):Int)=2*p:=by omega
 have dbl:∀u v:Int,2*u*x0+2*v*y0=2*(u*x0+v*y0):=fun u v=>by grind
 have dif:∀u v u' v':Int,(u-u')*x0+(v-v')*y0=(u*x0+v*y0)-(u'*x0+v'*y0):=fun u v u' v'=>by grind
 unfold pstep
 split
 ·rename_i hx
  refine ⟨?_,?_,odd,?_,?_,?_,?_,?_⟩<;>simp only
  ·rw[←lx,e',show (2:Int)*p=p*2 from Int.mul_comm _ _,Int.mul_assoc]
   congr 1
   omega
  ·rw[e',Int.mul_assoc,ly,dbl]
  ·omega
  ·omega
  ·omega
  ·omega
  ·rcases sum with ⟨h1,h2,h3,h4⟩ | h
   ·exact .inl ⟨h1,h2,by omega,by omega⟩
   ·right;omega
 ·split
  ·rename_i hx hl
   refine ⟨?_,?_,by simp only;omega,?_,?_,?_,?_,?_⟩<;>simp only
   ·have q:2*(((s.y-s.x) / 2:Nat):Int)=s.y-s.x:=by omega
    rw[e',show (2:Int)*p=p*2 from Int.mul_comm _ _,Int.mul_assoc,q,Int.mul_sub,lx,ly,dif]
   ·rw[e',Int.mul_assoc,lx,dbl]
   ·omega
   ·omega
   ·omega
   ·omega
   ·right;omega
  ·rename_i hx hl
   refine ⟨?_,?_,odd,?_,?_,?_,?_,?_⟩<;>simp only
   ·have q:2*(((s.x-s.y) / 2:Nat):Int)=s.x-s.y:=by omega
    rw[e',show (2:Int)*p=p*2 from Int.mul_comm _ _,Int.mul_assoc,q,Int.mul_sub,lx,ly,dif]
   ·rw[e',Int.mul_assoc,ly,dbl]
   ·omega
   ·omega
   ·omega
   ·omega
   ·right;omega
def prun:Nat→PS→PS
 | 0,s=>s
 | n+1,s=>pstep (prun n s)
def psgns:Nat→PS→Int
 | 0,_=>1
 | n+1,s=>psgns n s*psgn (prun n s)
theorem Lin.run {x0 y0:Nat} (h:y0%2=1):∀n,Lin (2 ^ n) x0 y0 (prun n ⟨x0,y0,1,0,0,1⟩)
 | 0=>Lin.start h
 | n+1=>by rw[Nat.pow_succ,Nat.mul_comm];exact (Lin.run h n).step
structure Tru (p q:Nat) (a b:Int) (s:PS) (A B:Int):Prop where
 ra:(p:Int)*A=s.f0*a+s.g0*b
 rb:(p:Int)*B=s.f1*a+s.g1*b
 ca:∃t:Int,A=s.x+q*t
 cb:∃t:Int,B=s.y+q*t
 odd:B%2=1
 cop:Cop A B
 pos:¬(A<0∧B<0)
theorem Tru.start {a b:Int} {x y q:Nat} (hb:b%2=1) (h:Cop a b) (h0:0≤a) (ha:∃t:Int,a=x+q*t) (hb':∃t:Int,b=y+q*t):Tru 1 q a b ⟨x,y,1,0,0,1⟩ a b:=
 ⟨by simp,by simp,ha,hb',hb,h,by omega⟩
theorem Tru.step {p q:Nat} {a b:Int} {s:PS} {A B:Int} (hy:s.y%2=1) (h:Tru p (2*q) a b s A B):∃A' B',Tru (2*p) q a b (pstep s) A' B'∧(2*q%8=0→K A B=psgn s*K A' B'):=by
 obtain ⟨ra,rb,⟨t,ca⟩,⟨u,cb⟩,odd,cop,pos⟩:=h
 have ep:((2*p:Nat):Int)=2*p:=by omega
 have eq:∀t:Int,((2*q:Nat):Int)*t=2*(q*t):=fun t=>by rw[show ((2*q:Nat):Int)=2*q by omega,Int.mul_assoc]
 rw[eq]at ca cb
 have dbl:∀u v:Int,2*u*a+2*v*b=2*(u*a+v*b):=fun u v=>by grind
 have dif:∀u v u' v':Int,(u-u')*a+(v-v')*b=(u*a+v*b)-(u'*a+v'*b):=fun u v u' v'=>by grind
 have m8:2*q%8=0→A%8=s.x%8∧B%8=s.y%8:=fun h8=>by
  obtain ⟨r,hr⟩:∃r,q=4*r:=⟨q / 4,by omega⟩
  subst hr
  have e:∀t:Int,2*(((4*r:Nat):Int)*t)=8*(r*t):=fun t=>by rw[show ((4*r:Nat):Int)=4*r by omega,Int.mul_assoc];omega
  rw[e]at ca cb
  omega
 have ee:2*q%8=0→e2 B=e2 s.y∧(s.x%2=1→e2 A=e2 s.x)∧e4 A B=e4 s.x s.y:=fun h8=>by
  obtain ⟨h1,h2⟩:=m8 h8
  unfold e2 e4
  refine ⟨?_,fun _=> ?_,?_⟩<;>split<;>split<;>first | rfl | omega
 unfold pstep psgn
 split
 ·rename_i hx
  have hA:A=2*(A / 2):=by omega
  refine ⟨A / 2,B,⟨?_,?_,?_,?_,odd,?_,by omega⟩,?_⟩<;>(try simp only)
  ·rw[ep,show (2:Int)*p=p*2 from Int.mul_comm _ _,Int.mul_assoc,←hA,ra]
  ·rw[ep,Int.mul_assoc,rb,dbl]
  ·exact ⟨t,by omega⟩
  ·exact ⟨2*u,by rw[Int.mul_left_comm];omega⟩
  ·rw[hA]at cop;exact cop.half
  ·intro h8
   rw[←(ee h8).1]
   conv=>lhs;rw[hA]
   rw[hA]at cop
   exact K_half odd cop
 ·split
  ·rename_i hx hl
   have hA:A%2=1:=by omega
   have h2:B-A=2*((B-A) / 2):=by omega
   refine ⟨(B-A) / 2,A,⟨?_,?_,?_,?_,hA,?_,by omega⟩,?_⟩<;>(try simp only)
   ·rw[ep,show (2:Int)*p=p*2 from Int.mul_comm _ _,Int.mul_assoc,←h2,Int.mul_sub,ra,rb,dif]
   ·rw[ep,Int.mul_assoc,ra,dbl]
   ·exact ⟨u-t,by rw[Int.mul_sub];omega⟩
   ·exact ⟨2*t,by rw[Int.mul_left_comm];omega⟩
   ·have:=cop.symm.sub
    rw[h2]at this
    exact this.half
   ·intro h8
    have c:=cop.symm.sub
    rw[h2]at c
    have k1:=K_half hA c
    rw[←h2,K_sub]at k1
    rw[K_swap hA odd pos cop,k1,(ee h8).2.2,(ee h8).2.1 (by omega),Int.mul_assoc]
  ·rename_i hx hl
   have hA:A%2=1:=by omega
   have h2:A-B=2*((A-B) / 2):=by omega
   refine ⟨(A-B) / 2,B,⟨?_,?_,?_,?_,odd,?_,by omega⟩,?_⟩<;>(try simp only)
   ·rw[ep,show (2:Int)*p=p*2 from Int.mul_comm _ _,Int.mul_assoc,←h2,Int.mul_sub,ra,rb,dif]
   ·rw[ep,Int.mul_assoc,rb,dbl]
   ·exact ⟨t-u,by rw[Int.mul_sub];omega⟩
   ·exact ⟨2*u,by rw[Int.mul_left_comm];omega⟩
   ·have:=cop.sub
    rw[h2]at this
    exact this.half
   ·intro h8
    have c:=cop.sub
    rw[h2]at c
    have k1:=K_half odd c
    rw[←h2,K_sub]at k1
    rw[k1,(ee h8).1]
theorem Tru.run {a b:Int} {x0 y0:Nat} (hy:y0%2=1) (hb:b%2=1) (h:Cop a b) (h0:0≤a):∀(n m:Nat),n≤m→(∃t:Int,a=x0+(2 ^ m:Nat)*t)→(∃t:Int,b=y0+(2 ^ m:Nat)*t)→
  ∃A B,Tru (2 ^ n) (2 ^ (m-n)) a b (prun n ⟨x0,y0,1,0,0,1⟩) A B∧(n+2≤m→K a b=psgns n ⟨x0,y0,1,0,0,1⟩*K A B)
 | 0,m,_,ha,hb'=>⟨a,b,Tru.start hb h h0 ha hb',fun _=>by rw[psgns,Int.one_mul]⟩
 | n+1,m,hm,ha,hb'=>by
  obtain ⟨A,B,ht,hk⟩:=Tru.run hy hb h h0 n m (by omega) ha hb'
  have e:2 ^ (m-n)=2*2 ^ (m-(n+1)):=by rw[←Nat.pow_succ'];congr 1;omega
  rw[e]at ht
  obtain ⟨A',B',h1,h2⟩:=ht.step (Lin.run (x0:=x0) hy n).odd
  refine ⟨A',B',by rw[Nat.pow_succ,Nat.mul_comm];exact h1,fun h3=> ?_⟩
  have h8:2*2 ^ (m-(n+1))%8=0:=by
   obtain ⟨r,hr⟩:∃r,m-(n+1)=2+r:=⟨m-(n+1)-2,by omega⟩
   rw[hr,Nat.pow_add]
   omega
  rw[hk (by omega),h2 h8,psgns,Int.mul_assoc]
end Go.Num
namespace Go.Num
def apx (lo n a:Nat):Nat:=if n≤64 then a else a%2 ^ lo+2 ^ lo*(a / 2 ^ (n-(64-lo)))
theorem apx_low {lo n a:Nat}:∃t:Int,(a:Int)=apx lo n a+(2 ^ lo:Nat)*t:=by
 unfold apx
 split
 ·exact ⟨0,by simp⟩
 ·refine ⟨((a / 2 ^ lo:Nat):Int)-((a / 2 ^ (n-(64-lo)):Nat):Int),?_⟩
  have h:=Nat.mod_add_div a (2 ^ lo)
  rw[Int.mul_sub,←Int.natCast_mul,←Int.natCast_mul,Int.natCast_add]
  omega
theorem apx_err {lo n a:Nat} (hn:64<n) (hlo:lo≤32):a≤2 ^ (n-64)*apx lo n a+2 ^ (n-(64-lo))∧2 ^ (n-64)*apx lo n a≤a+2 ^ (n-(64-lo)):=by
 unfold apx
 rw[if_neg (by omega)]
 have e:2 ^ (n-(64-lo))=2 ^ (n-64)*2 ^ lo:=by rw[←Nat.pow_add];congr 1;omega
 have h:=Nat.mod_add_div a (2 ^ (n-(64-lo)))
 have h1:=Nat.mod_lt a (show 0<2 ^ (n-(64-lo)) from Nat.pow_pos (by omega))
 have h2:=Nat.mod_lt a (show 0<2 ^ lo from Nat.pow_pos (by omega))
 have h3:2 ^ (n-64)*(a%2 ^ lo)≤2 ^ (n-(64-lo)):=by rw[e];exact Nat.mul_le_mul_left _ (by omega)
 have h4:2 ^ (n-64)*(2 ^ lo*(a / 2 ^ (n-(64-lo))))=2 ^ (n-(64-lo))*(a / 2 ^ (n-(64-lo))):=by rw[←Nat.mul_assoc,←e]
 rw[Nat.mul_add,h4]
 omega
theorem comb_le {f g u v:Int} {p D:Nat} (hs:f.natAbs+g.natAbs≤p) (hu:u.natAbs≤D) (hv:v.natAbs≤D):(f*u+g*v).natAbs≤p*D:=by
 have h1:(f*u).natAbs≤f.natAbs*D:=by rw[Int.natAbs_mul];exact Nat.mul_le_mul_left _ hu
 have h2:(g*v).natAbs≤g.natAbs*D:=by rw[Int.natAbs_mul];exact Nat.mul_le_mul_left _ hv
 have h3:f.natAbs*D+g.natAbs*D≤p*D:=by rw[←Nat.add_mul];exact Nat.mul_le_mul_right _ hs
 have:=Int.natAbs_add_le (f*u) (g*v)
 omega
theorem comb_apx {f g:Int} {p e D a b x0 y0 x:Nat} (hs:f.natAbs+g.natAbs≤p) (hx:(p:Int)*x=f*x0+g*y0) (ha:a≤e*x0+D∧e*x0≤a+D) (hb:b≤e*y0+D∧e*y0≤b+D):
  (f*a+g*b).natAbs≤p*(e*x+D):=by
 have e1:f*a+g*b=e*(p*x:Int)+(f*((a:Int)-(e*x0:Nat))+g*((b:Int)-(e*y0:Nat))):=by
  rw[hx,Int.natCast_mul,Int.natCast_mul]
  grind
 have h:=comb_le (p:=p) (D:=D) hs (show ((a:Int)-(e*x0:Nat)).natAbs≤D by omega) (show ((b:Int)-(e*y0:Nat)).natAbs≤D by omega)
 have h2:((e:Int)*(p*x:Int))=((p*(e*x):Nat):Int):=by simp only[Int.natCast_mul];grind
 rw[e1,h2,Nat.mul_add]
 have:=Int.natAbs_add_le ((p*(e*x):Nat):Int) (f*((a:Int)-(e*x0:Nat))+g*((b:Int)-(e*y0:Nat)))
 rw[Int.natAbs_natCast]at this
 omega
theorem natAbs_of_mul {p:Nat} {A z:Int} (h:(p:Int)*A=z):p*A.natAbs=z.natAbs:=by
 rw[←h,Int.natAbs_mul,Int.natAbs_natCast]
theorem le_of_pmul {p A B:Nat} (hp:0<p) (h:p*A≤p*B):A≤B:=Nat.le_of_mul_le_mul_left h hp
theorem sum_dec {p e D a b x0 y0:Nat} {s:PS} {A B:Int} (hp:2≤p) (hl:Lin p x0 y0 s) (ha:a≤e*x0+D∧e*x0≤a+D) (hb:b≤e*y0+D∧e*y0≤b+D) (hD:6*D<a+b) (h0:0<a)
  (ea:(p:Int)*A=s.f0*a+s.g0*b) (eb:(p:Int)*B=s.f1*a+s.g1*b):A.natAbs+B.natAbs<a+b:=by
 rcases hl.sum with ⟨h1,h2,h3,h4⟩ | h
 ·rw[h1,h2,Int.one_mul,Int.zero_mul,Int.add_zero]at ea
  rw[h3,h4,Int.zero_mul,Int.zero_add]at eb
  have hB:B=b:=Int.eq_of_mul_eq_mul_left (show (p:Int)≠0 by omega) eb
  have:=natAbs_of_mul ea
  rw[Int.natAbs_natCast]at this
  have h5:2*A.natAbs≤p*A.natAbs:=Nat.mul_le_mul_right _ hp
  omega
 ·have h1:=comb_apx (f:=s.f0) (g:=s.g0) (x:=s.x) hl.s0 hl.lx ha hb
  have h2:=comb_apx (f:=s.f1) (g:=s.g1) (x:=s.y) hl.s1 hl.ly ha hb
  rw[←natAbs_of_mul ea]at h1
  rw[←natAbs_of_mul eb]at h2
  have h1:=le_of_pmul (by omega) h1
  have h2:=le_of_pmul (by omega) h2
  have h3:e*(2*(s.x+s.y))≤e*(x0+y0):=Nat.mul_le_mul_left _ h
  have h4:e*(2*(s.x+s.y))=2*(e*s.x+e*s.y):=by grind
  rw[h4,Nat.mul_add e x0 y0]at h3
  omega
theorem max_le {p a b M:Nat} {f g A:Int} (hp:0<p) (hs:f.natAbs+g.natAbs≤p) (h:(p:Int)*A=f*a+g*b) (ha:a≤M) (hb:b≤M):A.natAbs≤M:=by
 have h1:=comb_le (u:=a) (v:=b) hs (D:=M) (by omega) (by omega)
 rw[←natAbs_of_mul h]at h1
 exact le_of_pmul hp h1
structure Out (lo m n a b:Nat) (s:PS) (A B:Int):Prop where
 ra:((2 ^ m:Nat):Int)*A=s.f0*a+s.g0*b
 rb:((2 ^ m:Nat):Int)*B=s.f1*a+s.g1*b
 odd:B.natAbs%2=1
 cop:Nat.Coprime B.natAbs A.natAbs
 pos:¬(A<0∧B<0)
 dec:0<a→A.natAbs+B.natAbs<a+b
 le:∀M,a≤M→b≤M→A.natAbs≤M∧B.natAbs≤M
 low:∃t:Int,B=s.y+(2 ^ (lo-m):Nat)*t
 sym:m+2≤lo→K a b=psgns m ⟨apx lo n a,apx lo n b,1,0,0,1⟩*K A B
theorem outer {lo m n a b:Nat} (hm:1≤m) (hml:m≤lo) (hlo:lo≤32) (hn:64<n→2 ^ (n-1)≤a∨2 ^ (n-1)≤b) (ho:b%2=1) (hc:Nat.Coprime b a):
  Lin (2 ^ m) (apx lo n a) (apx lo n b) (prun m ⟨apx lo n a,apx lo n b,1,0,0,1⟩)∧∃A B,Out lo m n a b (prun m ⟨apx lo n a,apx lo n b,1,0,0,1⟩) A B:=by
 have hy:apx lo n b%2=1:=by
  obtain ⟨t,ht⟩:=apx_low (lo:=lo) (n:=n) (a:=b)
  obtain ⟨r,hr⟩:∃r,lo=r+1:=⟨lo-1,by omega⟩
  rw[hr,Nat.pow_succ,Nat.mul_comm,show ((2*2 ^ r:Nat):Int)*t=2*((2 ^ r:Nat)*t) by rw[Int.natCast_mul,Int.mul_assoc];rfl,←hr]at ht
  omega
 have hl:=Lin.run (x0:=apx lo n a) (y0:=apx lo n b) hy m
 refine ⟨hl,?_⟩
 have hp:2≤2 ^ m:=by
  obtain ⟨r,hr⟩:∃r,m=r+1:=⟨m-1,by omega⟩
  rw[hr,Nat.pow_succ]
  have:=Nat.pow_pos (n:=r) (show 0<2 by omega)
  omega
 obtain ⟨A,B,ht,hk⟩:=Tru.run (a:=a) (b:=b) (x0:=apx lo n a) (y0:=apx lo n b) hy (by omega) (by unfold Cop;simpa using hc) (by omega) m lo hml apx_low apx_low
 refine ⟨A,B,ht.ra,ht.rb,by have:=ht.odd;omega,ht.cop,ht.pos,fun h0=> ?_,fun M h1 h2=>⟨max_le (by omega) hl.s0 ht.ra h1 h2,max_le (by omega) hl.s1 ht.rb h1 h2⟩,ht.cb,hk⟩
 by_cases h64:64<n
 ·refine sum_dec (e:=2 ^ (n-64)) (D:=2 ^ (n-(64-lo))) hp hl (apx_err h64 hlo) (apx_err h64 hlo) ?_ h0 ht.ra ht.rb
  have e:2 ^ (n-1)=2 ^ (63-lo)*2 ^ (n-(64-lo)):=by rw[←Nat.pow_add];congr 1;omega
  have h8:8≤2 ^ (63-lo):=by
   obtain ⟨r,hr⟩:∃r,63-lo=3+r:=⟨60-lo,by omega⟩
   rw[hr,Nat.pow_add]
   have:=Nat.pow_pos (n:=r) (show 0<2 by omega)
   omega
  have h9:8*2 ^ (n-(64-lo))≤2 ^ (n-1):=by rw[e];exact Nat.mul_le_mul_right _ h8
  have hD:=Nat.pow_pos (n:=n-(64-lo)) (show 0<2 by omega)
  rcases hn h64 with h | h<;>omega
 ·have ea:∀z,apx lo n z=z:=fun z=>by unfold apx;rw[if_pos (by omega)]
  refine sum_dec (e:=1) (D:=0) hp hl ?_ ?_ (by omega) h0 ht.ra ht.rb<;>rw[ea]<;>omega
theorem Out.symK {lo m n a b:Nat} {s:PS} {A B:Int} (h:Out lo m n a b s A B) (hm:m+2≤lo):K a b=psgns m ⟨apx lo n a,apx lo n b,1,0,0,1⟩*(if A<0∧B%4=3 then -1 else 1)*K A.natAbs B.natAbs:=by
 rw[h.sym hm,Int.mul_assoc]
 congr 1
 have hB:B%2=1:=by have:=h.odd;omega
 have hK:K (A.natAbs:Int) (B.natAbs:Int)=K A.natAbs B:=by unfold K;rw[Int.natAbs_natCast]
 rw[hK]
 by_cases hA:A<0
 ·have hB0:0<B:=by have:=h.pos;omega
  have k:=K_minus (a:=A) (b:=B) hB hB0 h.cop
  rw[show ((A.natAbs:Nat):Int)= -A by omega,k]
  simp only[hA,true_and]
  split<;>simp
 ·rw[if_neg (by omega),Int.one_mul,show ((A.natAbs:Nat):Int)=A by omega]
theorem K_zero {b:Nat} (hc:Nat.Coprime b 0):b=1∧K (0:Nat) b=1:=by
 have hb:b=1:=by simpa [Nat.Coprime]using hc
 subst hb
 exact ⟨rfl,rfl⟩
end Go.Num
namespace Go.Num
theorem or_sum {b i a:Nat} (h:b<2 ^ i):b ||| 2 ^ i*a=b+2 ^ i*a:=by
 rw[Nat.or_comm,←Nat.two_pow_add_eq_or_of_lt h,Nat.add_comm]
theorem apx_nat {V n lo w v q A U:Nat} (hlo:lo≤32) (hlo0:31≤lo) (hn:64<n) (hV:V<2 ^ n) (hq:q=(n-1) / 64) (hA:A=n-64*q) (hU:U=min A (64-lo)) (hw:w=V / 2 ^ (64*q)%2 ^ 64) (hv:v=V / 2 ^ (64*(q-1))%2 ^ 64):
  (V%2 ^ lo ||| (v / 2 ^ (lo+U)*2 ^ (lo+U)) / 2 ^ U) ||| ((w / 2 ^ (A-U)*2 ^ (A-U))*2 ^ (64-A)%2 ^ 64)=apx lo n V:=by
 have hq1:1≤q:=by omega
 have hA1:1≤A∧A≤64:=by omega
 have hnA:n=64*q+A:=by omega
 have p2:∀k,0<2 ^ k:=fun k=>Nat.pow_pos (by omega)
 have hwl:V / 2 ^ (64*q)<2 ^ A:=by rw[Nat.div_lt_iff_lt_mul (p2 _),←Nat.pow_add];rw[hnA,Nat.add_comm]at hV;exact hV
 have hA64:2 ^ A≤2 ^ 64:=Nat.pow_le_pow_right (by omega) hA1.2
 have ew:w=V / 2 ^ (64*q):=by rw[hw,Nat.mod_eq_of_lt (by omega)]
 rw[←ew]at hwl
 have hlow:V%2 ^ lo<2 ^ lo:=Nat.mod_lt _ (p2 _)
 unfold apx
 rw[if_neg (by omega)]
 by_cases hc:64-lo≤A
 ·have hU':U=64-lo:=by omega
  subst hU'
  have e1:lo+(64-lo)=64:=by omega
  have hv64:v<2 ^ 64:=by rw[hv];exact Nat.mod_lt _ (p2 _)
  rw[e1,Nat.div_eq_of_lt hv64,Nat.zero_mul,Nat.zero_div,Nat.or_zero]
  have e2:(w / 2 ^ (A-(64-lo))*2 ^ (A-(64-lo)))*2 ^ (64-A)=2 ^ lo*(w / 2 ^ (A-(64-lo))):=by
   rw[Nat.mul_assoc,←Nat.pow_add,Nat.mul_comm]
   congr 2
   omega
  have e3:w / 2 ^ (A-(64-lo))=V / 2 ^ (n-(64-lo)):=by
   rw[ew,Nat.div_div_eq_div_mul,←Nat.pow_add]
   congr 2
   omega
  have e4:w / 2 ^ (A-(64-lo))<2 ^ (64-lo):=by
   rw[Nat.div_lt_iff_lt_mul (p2 _),←Nat.pow_add,show 64-lo+(A-(64-lo))=A by omega]
   exact hwl
  have e5:2 ^ lo*(w / 2 ^ (A-(64-lo)))<2 ^ 64:=by
   have:2 ^ lo*(w / 2 ^ (A-(64-lo)))<2 ^ lo*2 ^ (64-lo):=Nat.mul_lt_mul_of_pos_left e4 (p2 _)
   rw[←Nat.pow_add,e1]at this
   exact this
  rw[e2,Nat.mod_eq_of_lt e5,or_sum hlow,e3]
 ·have hU':U=A:=by omega
  subst hU'
  rw[Nat.sub_self,Nat.pow_zero,Nat.div_one,Nat.mul_one]
  have e1:v / 2 ^ (lo+U)*2 ^ (lo+U) / 2 ^ U=2 ^ lo*(v / 2 ^ (lo+U)):=by
   rw[Nat.pow_add,←Nat.mul_assoc,Nat.mul_div_cancel _ (p2 U),Nat.mul_comm]
  have e2:w*2 ^ (64-U)<2 ^ 64:=by
   have:w*2 ^ (64-U)<2 ^ U*2 ^ (64-U):=Nat.mul_lt_mul_of_pos_right hwl (p2 _)
   rw[←Nat.pow_add,show U+(64-U)=64 by omega]at this
   exact this
  have hs:v / 2 ^ (lo+U)<2 ^ (64-lo-U):=by
   rw[Nat.div_lt_iff_lt_mul (p2 _),←Nat.pow_add,show 64-lo-U+(lo+U)=64 by omega,hv]
   exact Nat.mod_lt _ (p2 _)
  have e3:V%2 ^ lo+2 ^ lo*(v / 2 ^ (lo+U))<2 ^ (64-U):=by
   have:2 ^ lo*(v / 2 ^ (lo+U)+1)≤2 ^ lo*2 ^ (64-lo-U):=Nat.mul_le_mul_left _ hs
   rw[←Nat.pow_add,show lo+(64-lo-U)=64-U by omega,Nat.mul_add]at this
   omega
  have e4:V / 2 ^ (n-(64-lo))=w*2 ^ (64-lo-U)+v / 2 ^ (lo+U):=by
   have h1:n-(64-lo)=64*(q-1)+(lo+U):=by omega
   have h2:V / 2 ^ (64*(q-1))=v+2 ^ (lo+U)*(w*2 ^ (64-lo-U)):=by
    have h3:=Nat.mod_add_div (V / 2 ^ (64*(q-1))) (2 ^ 64)
    rw[←hv,Nat.div_div_eq_div_mul,←Nat.pow_add,show 64*(q-1)+64=64*q by omega,←ew]at h3
    rw[←h3]
    congr 1
    rw[Nat.mul_comm w,←Nat.mul_assoc,←Nat.pow_add,show lo+U+(64-lo-U)=64 by omega]
   rw[h1,Nat.pow_add,←Nat.div_div_eq_div_mul,h2,Nat.add_mul_div_left _ _ (p2 _),Nat.add_comm]
  rw[e1,or_sum hlow,Nat.mod_eq_of_lt e2,Nat.mul_comm w,or_sum e3,e4,Nat.mul_add,←Nat.mul_assoc,Nat.mul_comm (2 ^ lo) w,Nat.mul_assoc,←Nat.pow_add,show lo+(64-lo-U)=64-U by omega]
  rw[Nat.mul_comm w]
  omega
theorem and_high {x k:Nat} (hx:x<2 ^ 64) (hk:k≤64):x &&& ((2 ^ 64-1) ^^^ (2 ^ k-1))=x / 2 ^ k*2 ^ k:=by
 apply Nat.eq_of_testBit_eq
 intro i
 rw[Nat.testBit_and,Nat.testBit_xor,Nat.testBit_two_pow_sub_one,Nat.testBit_two_pow_sub_one,←Nat.shiftRight_eq_div_pow,←Nat.shiftLeft_eq,Nat.testBit_shiftLeft,Nat.testBit_shiftRight]
 by_cases h1:i<64
 ·by_cases h2:i<k
  ·simp[h1,h2,Nat.not_le.2 h2]
  ·simp[h1,h2,Nat.le_of_not_lt h2,Nat.add_sub_cancel' (Nat.le_of_not_lt h2)]
 ·have:x.testBit i=false:=Nat.testBit_lt_two_pow (Nat.lt_of_lt_of_le hx (Nat.pow_le_pow_right (by omega) (by omega)))
  rw[this]
  have h2:k≤i:=by omega
  simp[h1,h2,Nat.add_sub_cancel' h2,this]
end Go.Num
namespace Go.Sx
open Go Go.Proofs Go.Num
set_option maxRecDepth 100000
theorem vc_apx (a0 a1 a2 a3 n:Int) (K:SV→Mem→Prop):(execF cx0 u0 Tryz.f126 64 [.ptr 1 (.lit 0),.int .i64 (.sym n)] (memL [(1,⟨true,w4 a0 a1 a2 a3⟩)]) K)=
 (((((decide (n≤(64:Int)))=Bool.true)→(K (Go.Sx.SV.int Go.IntKind.u64 (Go.Sx.A.sym a0)) (Go.Sx.memL [((1:Nat),(Go.Sx.Reg.mk Bool.true (Go.Sx.Ct.cells [(Go.Sx.SV.int Go.IntKind.u64 (Go.Sx.A.sym a0)),(Go.Sx.SV.int Go.IntKind.u64 (Go.Sx.A.sym a1)),(Go.Sx.SV.int Go.IntKind.u64 (Go.Sx.A.sym a2)),(Go.Sx.SV.int Go.IntKind.u64 (Go.Sx.A.sym a3))])))])))∧
 (((decide (n≤(64:Int)))=Bool.false)→(∀(x0:Int),((x0=(Go.Sx.band Go.IntKind.u64 (2147483647:Int) a0))→(∀(x1:Int),((x1=(Go.IntKind.wrap Go.IntKind.i64 (n-(1:Int))))→(∀(x2:Int),((x2=(Go.IntKind.wrap Go.IntKind.i64 (Int.tdiv x1 (64:Int))))→(∀(x3:Int),((x3=(Go.IntKind.wrap Go.IntKind.i64 (x2*(64:Int))))→(∀(x4:Int),((x4=(Go.IntKind.wrap Go.IntKind.i64 (n-x3)))→(∀(x5:Int),((x5=(if ((33:Int)<x4)then (33:Int)else x4))→(∀(x6:Int),((x6=(Go.IntKind.wrap Go.IntKind.i64 (x4-x5)))→(((0:Int)≤x6)∧
 (∀(x7:Int),((x7=(Go.Sx.shlv Go.IntKind.u64 (1:Int) (Int.toNat x6)))→(∀(x8:Int),((x8=(Go.IntKind.wrap Go.IntKind.u64 (x7-(1:Int))))→(∀(x9:Int),((x9=(Go.Sx.bxor Go.IntKind.u64 (18446744073709551615:Int) x8))→((((0:Int)≤x2)∧
 (x2<(4:Int)))∧
 (((((Int.toNat x2)*(1:Nat))+(1:Nat))≤(List.length [a0,a1,a2,a3]))∧
 (∀(x10:Int),((x10=(List.getD [a0,a1,a2,a3] ((Int.toNat x2)*(1:Nat)) (0:Int)))→(∀(x11:Int),((x11=(Go.Sx.band Go.IntKind.u64 x10 x9))→(∀(x12:Int),((x12=(Go.IntKind.wrap Go.IntKind.i64 ((64:Int)-x4)))→(((0:Int)≤x12)∧
 (∀(x13:Int),((x13=(Go.Sx.shlv Go.IntKind.u64 x11 (Int.toNat x12)))→(∀(x14:Int),((x14=(Go.IntKind.wrap Go.IntKind.i64 ((31:Int)+x5)))→(((0:Int)≤x14)∧
 (∀(x15:Int),((x15=(Go.Sx.shlv Go.IntKind.u64 (1:Int) (Int.toNat x14)))→(∀(x16:Int),((x16=(Go.IntKind.wrap Go.IntKind.u64 (x15-(1:Int))))→(∀(x17:Int),((x17=(Go.Sx.bxor Go.IntKind.u64 (18446744073709551615:Int) x16))→(∀(x18:Int),((x18=(Go.IntKind.wrap Go.IntKind.i64 (x2-(1:Int))))→((((0:Int)≤x18)∧
 (x18<(4:Int)))∧
 (((((Int.toNat x18)*(1:Nat))+(1:Nat))≤(List.length [a0,a1,a2,a3]))∧
 (∀(x19:Int),((x19=(List.getD [a0,a1,a2,a3] ((Int.toNat x18)*(1:Nat)) (0:Int)))→(∀(x20:Int),((x20=(Go.Sx.band Go.IntKind.u64 x17 x19))→(((0:Int)≤x5)∧
 (∀(x21:Int),((x21=(Go.Sx.shrv Go.IntKind.u64 x20 (Int.toNat x5)))→(∀(x22:Int),((x22=(Go.Sx.bor Go.IntKind.u64 x0 x21))→(∀(x23:Int),((x23=(Go.Sx.bor Go.IntKind.u64 x22 x13))→(K (Go.Sx.SV.int Go.IntKind.u64 (Go.Sx.A.sym x23)) (Go.Sx.memL [((1:Nat),(Go.Sx.Reg.mk Bool.true (Go.Sx.Ct.cells [(Go.Sx.SV.int Go.IntKind.u64 (Go.Sx.A.sym a0)),(Go.Sx.SV.int Go.IntKind.u64 (Go.Sx.A.sym a1)),(Go.Sx.SV.int Go.IntKind.u64 (Go.Sx.A.sym a2)),(Go.Sx.SV.int Go.IntKind.u64 (Go.Sx.A.sym a3))])))]))))))))))))))))))))))))))))))))))))))))))))))))))))))))))))):=by kernel_rfl
theorem vc_apl (a0 a1 a2 a3 n:Int) (K:SV→Mem→Prop):(execF cx0 u0 Tryz.f134 64 [.ptr 1 (.lit 0),.int .i64 (.sym n)] (memL [(1,⟨true,w4 a0 a1 a2 a3⟩)]) K)=
 (((((decide (n≤(64:Int)))=Bool.true)→(K (Go.Sx.SV.int Go.IntKind.u64 (Go.Sx.A.sym a0)) (Go.Sx.memL [((1:Nat),(Go.Sx.Reg.mk Bool.true (Go.Sx.Ct.cells [(Go.Sx.SV.int Go.IntKind.u64 (Go.Sx.A.sym a0)),(Go.Sx.SV.int Go.IntKind.u64 (Go.Sx.A.sym a1)),(Go.Sx.SV.int Go.IntKind.u64 (Go.Sx.A.sym a2)),(Go.Sx.SV.int Go.IntKind.u64 (Go.Sx.A.sym a3))])))])))∧
 (((decide (n≤(64:Int)))=Bool.false)→(∀(x0:Int),((x0=(Go.Sx.band Go.IntKind.u64 (4294967295:Int) a0))→(∀(x1:Int),((x1=(Go.IntKind.wrap Go.IntKind.i64 (n-(1:Int))))→(∀(x2:Int),((x2=(Go.IntKind.wrap Go.IntKind.i64 (Int.tdiv x1 (64:Int))))→(∀(x3:Int),((x3=(Go.IntKind.wrap Go.IntKind.i64 (x2*(64:Int))))→(∀(x4:Int),((x4=(Go.IntKind.wrap Go.IntKind.i64 (n-x3)))→(∀(x5:Int),((x5=(if ((32:Int)<x4)then (32:Int)else x4))→(∀(x6:Int),((x6=(Go.IntKind.wrap Go.IntKind.i64 (x4-x5)))→(((0:Int)≤x6)∧
 (∀(x7:Int),((x7=(Go.Sx.shlv Go.IntKind.u64 (1:Int) (Int.toNat x6)))→(∀(x8:Int),((x8=(Go.IntKind.wrap Go.IntKind.u64 (x7-(1:Int))))→(∀(x9:Int),((x9=(Go.Sx.bxor Go.IntKind.u64 (18446744073709551615:Int) x8))→((((0:Int)≤x2)∧
 (x2<(4:Int)))∧
 (((((Int.toNat x2)*(1:Nat))+(1:Nat))≤(List.length [a0,a1,a2,a3]))∧
 (∀(x10:Int),((x10=(List.getD [a0,a1,a2,a3] ((Int.toNat x2)*(1:Nat)) (0:Int)))→(∀(x11:Int),((x11=(Go.Sx.band Go.IntKind.u64 x10 x9))→(∀(x12:Int),((x12=(Go.IntKind.wrap Go.IntKind.i64 ((64:Int)-x4)))→(((0:Int)≤x12)∧
 (∀(x13:Int),((x13=(Go.Sx.shlv Go.IntKind.u64 x11 (Int.toNat x12)))→(∀(x14:Int),((x14=(Go.IntKind.wrap Go.IntKind.i64 ((32:Int)+x5)))→(((0:Int)≤x14)∧
 (∀(x15:Int),((x15=(Go.Sx.shlv Go.IntKind.u64 (1:Int) (Int.toNat x14)))→(∀(x16:Int),((x16=(Go.IntKind.wrap Go.IntKind.u64 (x15-(1:Int))))→(∀(x17:Int),((x17=(Go.Sx.bxor Go.IntKind.u64 (18446744073709551615:Int) x16))→(∀(x18:Int),((x18=(Go.IntKind.wrap Go.IntKind.i64 (x2-(1:Int))))→((((0:Int)≤x18)∧
 (x18<(4:Int)))∧
 (((((Int.toNat x18)*(1:Nat))+(1:Nat))≤(List.length [a0,a1,a2,a3]))∧
 (∀(x19:Int),((x19=(List.getD [a0,a1,a2,a3] ((Int.toNat x18)*(1:Nat)) (0:Int)))→(∀(x20:Int),((x20=(Go.Sx.band Go.IntKind.u64 x17 x19))→(((0:Int)≤x5)∧
 (∀(x21:Int),((x21=(Go.Sx.shrv Go.IntKind.u64 x20 (Int.toNat x5)))→(∀(x22:Int),((x22=(Go.Sx.bor Go.IntKind.u64 x0 x21))→(∀(x23:Int),((x23=(Go.Sx.bor Go.IntKind.u64 x22 x13))→(K (Go.Sx.SV.int Go.IntKind.u64 (Go.Sx.A.sym x23)) (Go.Sx.memL [((1:Nat),(Go.Sx.Reg.mk Bool.true (Go.Sx.Ct.cells [(Go.Sx.SV.int Go.IntKind.u64 (Go.Sx.A.sym a0)),(Go.Sx.SV.int Go.IntKind.u64 (Go.Sx.A.sym a1)),(Go.Sx.SV.int Go.IntKind.u64 (Go.Sx.A.sym a2)),(Go.Sx.SV.int Go.IntKind.u64 (Go.Sx.A.sym a3))])))]))))))))))))))))))))))))))))))))))))))))))))))))))))))))))))):=by kernel_rfl
theorem wd_nat {x:Nat} (h:x<2 ^ 64):Wd (x:Int):=by unfold Wd;omega
theorem shl_nat {x k:Nat} (hk:k≤64):shlv .u64 (x:Int) k=((x*2 ^ k%2 ^ 64:Nat):Int):=by
 unfold shlv
 rw[wu64,show min k IntKind.u64.bits=k by simp[IntKind.bits];omega,Int.natCast_emod,Int.natCast_mul,Int.natCast_pow]
 rfl
theorem mask_eq {k:Nat} (hk:k≤64) {x7 x8 x9:Int} (h7:x7=shlv .u64 1 k) (h8:x8=IntKind.u64.wrap (x7-1)) (h9:x9=bxor .u64 18446744073709551615 x8):x9=(((2 ^ 64-1) ^^^ (2 ^ k-1):Nat):Int)∧Wd x9:=by
 have hp:0<2 ^ k:=Nat.pow_pos (by omega)
 have hle:2 ^ k≤2 ^ 64:=Nat.pow_le_pow_right (by omega) hk
 have e7:=shl_nat (x:=1) hk
 rw[Nat.one_mul]at e7
 have e8:x8=((2 ^ k-1:Nat):Int):=by
  rw[h8,h7,show (1:Int)=((1:Nat):Int) from rfl,e7,wu64]
  by_cases hk6:2 ^ k=2 ^ 64
  ·rw[hk6]
   decide
  ·rw[Nat.mod_eq_of_lt (by omega)]
   omega
 obtain ⟨e,w⟩:=bxor_eq wd_max (show Wd x8 by rw[e8];exact wd_nat (by omega))
 rw[←h9]at e w
 refine ⟨?_,w⟩
 rw[e,e8,Int.toNat_natCast]
 rfl
theorem lm_nat (X i:Nat):lm X i=((X / 2 ^ (64*i)%2 ^ 64:Nat):Int):=by
 unfold lm
 rw[Nat.pow_mul]
theorem lm_getD (X:Nat):∀k,k<4→[lm X 0,lm X 1,lm X 2,lm X 3].getD k 0=lm X k
 | 0,_=>rfl
 | 1,_=>rfl
 | 2,_=>rfl
 | 3,_=>rfl
 | k+4,h=>absurd h (by omega)
theorem apx_walk {X n lo:Nat} (hlo:lo≤32) (hlo0:31≤lo) {L:Int} (hL:L=2 ^ lo-1) (hn:64<n) (hn2:n≤256) (hV:X<2 ^ n) {K:Int→Prop} (hK:K ((apx lo n X:Nat):Int)):
  ∀x0,x0=band .u64 L (lm X 0)→∀x1,x1=IntKind.i64.wrap ((n:Int)-1)→∀x2,x2=IntKind.i64.wrap (Int.tdiv x1 64)→∀x3,x3=IntKind.i64.wrap (x2*64)→∀x4,x4=IntKind.i64.wrap ((n:Int)-x3)→∀x5,x5=(if ((64-lo:Nat):Int)<x4 then ((64-lo:Nat):Int)else x4)→∀x6,x6=IntKind.i64.wrap (x4-x5)→0≤x6∧
  ∀x7,x7=shlv .u64 1 x6.toNat→∀x8,x8=IntKind.u64.wrap (x7-1)→∀x9,x9=bxor .u64 18446744073709551615 x8→(0≤x2∧x2<4)∧x2.toNat*1+1≤[lm X 0,lm X 1,lm X 2,lm X 3].length∧
  ∀x10,x10= [lm X 0,lm X 1,lm X 2,lm X 3].getD (x2.toNat*1) 0→∀x11,x11=band .u64 x10 x9→∀x12,x12=IntKind.i64.wrap (64-x4)→0≤x12∧
  ∀x13,x13=shlv .u64 x11 x12.toNat→∀x14,x14=IntKind.i64.wrap ((lo:Int)+x5)→0≤x14∧
  ∀x15,x15=shlv .u64 1 x14.toNat→∀x16,x16=IntKind.u64.wrap (x15-1)→∀x17,x17=bxor .u64 18446744073709551615 x16→∀x18,x18=IntKind.i64.wrap (x2-1)→(0≤x18∧x18<4)∧x18.toNat*1+1≤[lm X 0,lm X 1,lm X 2,lm X 3].length∧
  ∀x19,x19= [lm X 0,lm X 1,lm X 2,lm X 3].getD (x18.toNat*1) 0→∀x20,x20=band .u64 x17 x19→0≤x5∧∀x21,x21=shrv .u64 x20 x5.toNat→∀x22,x22=bor .u64 x0 x21→∀x23,x23=bor .u64 x22 x13→K x23:=by
 have key:=apx_nat (V:=X) (n:=n) (lo:=lo) (q:=(n-1) / 64) (A:=n-64*((n-1) / 64)) (U:=min (n-64*((n-1) / 64)) (64-lo)) hlo hlo0 hn hV rfl rfl rfl rfl rfl
 intro x0 h0 x1 h1 x2 h2 x3 h3 x4 h4 x5 h5 x6 h6
 rw[wrap64 (by omega) (by omega)]at h1
 rw[Int.tdiv_eq_ediv_of_nonneg (by omega),wrap64 (by omega) (by omega)]at h2
 rw[wrap64 (by omega) (by omega)]at h3
 rw[wrap64 (by omega) (by omega)]at h4
 generalize hq:(n-1) / 64=q at key
 generalize hA:n-64*q=A at key
 generalize hU:min A (64-lo)=U at key
 have e2:x2=q:=by omega
 have e4:x4=A:=by omega
 have e5:x5=U:=by rw[h5];split<;>omega
 rw[wrap64 (by omega) (by omega)]at h6
 have e6:x6.toNat=A-U:=by omega
 refine ⟨by omega,?_⟩
 intro x7 h7 x8 h8 x9 h9
 rw[e6]at h7
 obtain ⟨m9,w9⟩:=mask_eq (by omega) h7 h8 h9
 refine ⟨⟨by omega,by omega⟩,by simp only[List.length_cons,List.length_nil];omega,?_⟩
 intro x10 h10 x11 h11 x12 h12
 rw[show x2.toNat*1=q by omega,lm_getD X q (by omega),lm_nat]at h10
 rw[wrap64 (by omega) (by omega)]at h12
 have hw64:X / 2 ^ (64*q)%2 ^ 64<2 ^ 64:=Nat.mod_lt _ (Nat.pow_pos (by omega))
 have e11:x11=((X / 2 ^ (64*q)%2 ^ 64 / 2 ^ (A-U)*2 ^ (A-U):Nat):Int):=by
  obtain ⟨e,_⟩:=band_eq (show Wd x10 by rw[h10];exact wd_nat hw64) w9
  rw[h11,e,h10,m9,Int.toNat_natCast,Int.toNat_natCast,and_high hw64 (by omega)]
 refine ⟨by omega,?_⟩
 intro x13 h13 x14 h14
 rw[e11,show x12.toNat=64-A by omega,shl_nat (by omega)]at h13
 rw[wrap64 (by omega) (by omega)]at h14
 refine ⟨by omega,?_⟩
 intro x15 h15 x16 h16 x17 h17 x18 h18
 rw[show x14.toNat=lo+U by omega]at h15
 obtain ⟨m17,w17⟩:=mask_eq (by omega) h15 h16 h17
 rw[wrap64 (by omega) (by omega)]at h18
 refine ⟨⟨by omega,by omega⟩,by simp only[List.length_cons,List.length_nil];omega,?_⟩
 intro x19 h19 x20 h20
 rw[show x18.toNat*1=q-1 by omega,lm_getD X (q-1) (by omega),lm_nat]at h19
 have hv64:X / 2 ^ (64*(q-1))%2 ^ 64<2 ^ 64:=Nat.mod_lt _ (Nat.pow_pos (by omega))
 have e20:x20=((X / 2 ^ (64*(q-1))%2 ^ 64 / 2 ^ (lo+U)*2 ^ (lo+U):Nat):Int):=by
  obtain ⟨e,_⟩:=band_eq w17 (show Wd x19 by rw[h19];exact wd_nat hv64)
  rw[h20,e,h19,m17,Int.toNat_natCast,Int.toNat_natCast,Nat.and_comm,and_high hv64 (by omega)]
 refine ⟨by omega,?_⟩
 intro x21 h21 x22 h22 x23 h23
 have hle20:X / 2 ^ (64*(q-1))%2 ^ 64 / 2 ^ (lo+U)*2 ^ (lo+U)<2 ^ 64:=Nat.lt_of_le_of_lt (Nat.div_mul_le_self _ _) hv64
 have e21:x21=((X / 2 ^ (64*(q-1))%2 ^ 64 / 2 ^ (lo+U)*2 ^ (lo+U) / 2 ^ U:Nat):Int):=by
  rw[h21,e20,show x5.toNat=U by omega,shr64 (Int.natCast_nonneg _) (by omega),Int.natCast_ediv,Int.natCast_pow]
  rfl
 have e0:x0=((X%2 ^ lo:Nat):Int):=by
  have hm:Wd (lm X 0):=lm_wd X 0
  have:band .u64 L (lm X 0)=band .u64 (lm X 0) L:=by
   unfold band
   rw[BitVec.and_comm]
  rw[h0,this,hL,band_mask hm (by omega),lm_nat,Nat.mul_zero,Nat.pow_zero,Nat.div_one,show ((2:Int) ^ lo)=((2 ^ lo:Nat):Int) by rw[Int.natCast_pow];rfl,←Int.natCast_emod]
  congr 1
  exact Nat.mod_mod_of_dvd X (Nat.pow_dvd_pow 2 (by omega))
 have hlt0:X%2 ^ lo<2 ^ 64:=Nat.lt_of_lt_of_le (Nat.mod_lt _ (Nat.pow_pos (by omega))) (Nat.pow_le_pow_right (by omega) (by omega))
 have hlt21:X / 2 ^ (64*(q-1))%2 ^ 64 / 2 ^ (lo+U)*2 ^ (lo+U) / 2 ^ U<2 ^ 64:=Nat.lt_of_le_of_lt (Nat.div_le_self _ _) hle20
 obtain ⟨e22,w22⟩:=bor_eq (show Wd x0 by rw[e0];exact wd_nat hlt0) (show Wd x21 by rw[e21];exact wd_nat hlt21)
 rw[←h22]at e22 w22
 obtain ⟨e23,_⟩:=bor_eq w22 (show Wd x13 by rw[h13];exact wd_nat (Nat.mod_lt _ (Nat.pow_pos (by omega))))
 rw[←h23]at e23
 rw[e23,e22,e0,e21,h13,Int.toNat_natCast,Int.toNat_natCast,Int.toNat_natCast,Int.toNat_natCast,key]
 exact hK
def rApx:R0:=fun args l=>
 match args,l with
 | [.ptr 1 (.lit 0),.int .i64 (.sym n)],[(1,⟨true,x⟩)]=>r4 x fun a b c d=>some (some ((Wd a∧Wd b∧Wd c∧Wd d)∧(0≤n∧n≤256)∧(V4 a b c d).toNat<2 ^ n.toNat),.int .u64 (.sym ((apx 31 n.toNat (V4 a b c d).toNat:Nat):Int)))
 | _,_=>none
theorem apx_ok (args:List SV) (l:List (Nat×Reg)) (p:Ob) (v:SV) (h:rApx args l=some (p,v)) (hp:p.ok):∃U,execF cx0 U Tryz.f126 64 args (memL l) fun v' _=>v'=v:=by
 unfold rApx at h
 split at h
 ·rename_i n x
  obtain ⟨a,b,c,d,rfl,q⟩:=r4_ex h
  simp only[Option.some.injEq,Prod.mk.injEq]at q
  obtain ⟨rfl,rfl⟩:=q
  obtain ⟨hw,⟨hn0,hn1⟩,hV⟩:(Wd a∧Wd b∧Wd c∧Wd d)∧(0≤n∧n≤256)∧(V4 a b c d).toNat<2 ^ n.toNat:=hp
  obtain ⟨ea,eb,ec,ed,hl⟩:=ws_of hw.1 hw.2.1 hw.2.2.1 hw.2.2.2
  generalize hX:(V4 a b c d).toNat=X at *
  obtain ⟨m,rfl⟩:=Int.eq_ofNat_of_zero_le hn0
  simp only[Int.toNat_natCast]at *
  refine ⟨u0,?_⟩
  rw[vc_apx a b c d m]
  refine ⟨fun hc=> ?_,fun hc=> ?_⟩
  ·simp only[decide_eq_true_eq]at hc
   have h64:X<2 ^ 64:=Nat.lt_of_lt_of_le hV (Nat.pow_le_pow_right (by omega) (by omega))
   have e:apx 31 m X=X:=by unfold apx;rw[if_pos (by omega)]
   rw[e,ea,lm_nat,Nat.mul_zero,Nat.pow_zero,Nat.div_one,Nat.mod_eq_of_lt h64]
  ·simp only[decide_eq_false_iff_not]at hc
   subst ea eb ec ed
   exact apx_walk (lo:=31) (L:=2147483647) (by omega) (by omega) (by decide) (by omega) (by omega) hV (K:=fun z=>SV.int .u64 (.sym z)=SV.int .u64 (.sym ((apx 31 m X:Nat):Int))) rfl
 ·cases h
def cApx:Rd Tryz.prog:=mkR mixed 126 Tryz.func126 (by decide) (by kernel_rfl) [] [.ptr 4 true,.num] rApx apx_ok
def rApl:R0:=fun args l=>
 match args,l with
 | [.ptr 1 (.lit 0),.int .i64 (.sym n)],[(1,⟨true,x⟩)]=>r4 x fun a b c d=>some (some ((Wd a∧Wd b∧Wd c∧Wd d)∧(0≤n∧n≤256)∧(V4 a b c d).toNat<2 ^ n.toNat),.int .u64 (.sym ((apx 32 n.toNat (V4 a b c d).toNat:Nat):Int)))
 | _,_=>none
theorem apl_ok (args:List SV) (l:List (Nat×Reg)) (p:Ob) (v:SV) (h:rApl args l=some (p,v)) (hp:p.ok):∃U,execF cx0 U Tryz.f134 64 args (memL l) fun v' _=>v'=v:=by
 unfold rApl at h
 split at h
 ·rename_i n x
  obtain ⟨a,b,c,d,rfl,q⟩:=r4_ex h
  simp only[Option.some.injEq,Prod.mk.injEq]at q
  obtain ⟨rfl,rfl⟩:=q
  obtain ⟨hw,⟨hn0,hn1⟩,hV⟩:(Wd a∧Wd b∧Wd c∧Wd d)∧(0≤n∧n≤256)∧(V4 a b c d).toNat<2 ^ n.toNat:=hp
  obtain ⟨ea,eb,ec,ed,hl⟩:=ws_of hw.1 hw.2.1 hw.2.2.1 hw.2.2.2
  generalize hX:(V4 a b c d).toNat=X at *
  obtain ⟨m,rfl⟩:=Int.eq_ofNat_of_zero_le hn0
  simp only[Int.toNat_natCast]at *
  refine ⟨u0,?_⟩
  rw[vc_apl a b c d m]
  refine ⟨fun hc=> ?_,fun hc=> ?_⟩
  ·simp only[decide_eq_true_eq]at hc
   have h64:X<2 ^ 64:=Nat.lt_of_lt_of_le hV (Nat.pow_le_pow_right (by omega) (by omega))
   have e:apx 32 m X=X:=by unfold apx;rw[if_pos (by omega)]
   rw[e,ea,lm_nat,Nat.mul_zero,Nat.pow_zero,Nat.div_one,Nat.mod_eq_of_lt h64]
  ·simp only[decide_eq_false_iff_not]at hc
   subst ea eb ec ed
   exact apx_walk (lo:=32) (L:=4294967295) (by omega) (by omega) (by decide) (by omega) (by omega) hV (K:=fun z=>SV.int .u64 (.sym z)=SV.int .u64 (.sym ((apx 32 m X:Nat):Int))) rfl
 ·cases h
def cApl:Rd Tryz.prog:=mkR mixed 134 Tryz.func134 (by decide) (by kernel_rfl) [] [.ptr 4 true,.num] rApl apl_ok
def cxLg:Cx Tryz.prog:= { rds:= [cBl,cIz,cApl,cUd,cSub],efs:= [kLc,kNl],eqs:= [] }
structure LgI where
 a0:Int
 a1:Int
 a2:Int
 a3:Int
 b0:Int
 b1:Int
 b2:Int
 b3:Int
 l:Int
 s0:Int
 s1:Int
 s2:Int
 s3:Int
def LgI.m (i:LgI):Nat:=(V4 i.a0 i.a1 i.a2 i.a3).toNat+(V4 i.b0 i.b1 i.b2 i.b3).toNat
def LgS (z a b:Nat) (l:Int):Prop:=
 (z=0∧a=0∧b=qN)∨((a≤qN∧b≤qN∧b%2=1∧Nat.Coprime b a)∧(l=1∨l= -1)∧J z qN=l*J a b)
def LgQ (z:Nat) (i:LgI):Prop:=∃a b,Ws i.a0 i.a1 i.a2 i.a3 a∧Ws i.b0 i.b1 i.b2 i.b3 b∧LgS z a b i.l
def liLg (S:LgI→Prop):LI where
 ι:=LgI
 keep:= [2,3,4,7]
 keepR:= []
 F:=fun i=>⟨[(8,.int .i64 (.sym i.l))],[(545,⟨false,w4 i.a0 i.a1 i.a2 i.a3⟩),(569,⟨false,w4 i.b0 i.b1 i.b2 i.b3⟩),(601,⟨false,w4 i.s0 i.s1 i.s2 i.s3⟩)]⟩
 I:=fun _ i=>S i
 μ:=fun i=>i.m
structure PrI where
 j:Nat
 s:PS
 l:Int
def pk (f g:Int):Int:=IntKind.i64.wrap (f+4294967296*g)
def liPr (T:Int→Int→Int→Nat→PS→Int→Prop):LI where
 ι:=PrI
 keep:= [2,3,4,7]
 keepR:= [545,569,601]
 F:=fun i=>⟨[(5,.int .i64 (.sym (pk i.s.f0 i.s.g0))),(6,.int .i64 (.sym (pk i.s.f1 i.s.g1))),(8,.int .i64 (.sym i.l)),(10,.int .u64 (.sym (i.s.x:Nat))),(11,.int .u64 (.sym (i.s.y:Nat))),(33,i64n i.j)],[]⟩
 I:=fun st i=>T (st.int 10) (st.int 11) (st.int 8) i.j i.s i.l
 μ:=fun i=>31-i.j
def uLg (S:LgI→Prop) (T:Int→Int→Int→Nat→PS→Int→Prop):Nat→Lp:=fun n=>match n with | 0=> .inv (liLg S) | 2=> .inv (liPr T) | _=> .un 0
def PrT (m:Nat) (x0 y0 l0:Int) (j:Nat) (s:PS) (l:Int):Prop:=j≤m∧s=prun j ⟨x0.toNat,y0.toNat,1,0,0,1⟩∧l=l0*psgns j ⟨x0.toNat,y0.toNat,1,0,0,1⟩
theorem wrap64_eq (y:Int):IntKind.i64.wrap y=if y%18446744073709551616≥9223372036854775808 then y%18446744073709551616-18446744073709551616 else y%18446744073709551616:=by
 show (if (true && decide (y%18446744073709551616≥9223372036854775808))=true then y%18446744073709551616-18446744073709551616 else y%18446744073709551616)=_
 simp only[Bool.true_and,decide_eq_true_eq]
theorem wrap64_add (y t:Int):IntKind.i64.wrap (y+18446744073709551616*t)=IntKind.i64.wrap y:=by
 rw[wrap64_eq,wrap64_eq,Int.add_mul_emod_self_left]
theorem pk_dbl (f g:Int):IntKind.i64.wrap (pk f g*2)=pk (2*f) (2*g):=by
 unfold pk
 obtain ⟨t,ht⟩:=wrap64_ex (f+4294967296*g)
 have:(f+4294967296*g+18446744073709551616*t)*2=(2*f+4294967296*(2*g))+18446744073709551616*(2*t):=by omega
 rw[ht,this,wrap64_add]
theorem pk_dif (f g f' g':Int):IntKind.i64.wrap (pk f g-pk f' g')=pk (f-f') (g-g'):=by
 unfold pk
 obtain ⟨t,ht⟩:=wrap64_ex (f+4294967296*g)
 obtain ⟨u,hu⟩:=wrap64_ex (f'+4294967296*g')
 have:f+4294967296*g+18446744073709551616*t-(f'+4294967296*g'+18446744073709551616*u)=((f-f')+4294967296*(g-g'))+18446744073709551616*(t-u):=by omega
 rw[ht,hu,this,wrap64_add]
theorem shift_nat {r k i:Nat} (hk0:1≤k) (hk:k≤63):(r / 2 ^ (64*i)%2 ^ 64 / 2 ^ k) ||| (r / 2 ^ (64*(i+1))%2 ^ 64*2 ^ (64-k)%2 ^ 64)=r / 2 ^ k / 2 ^ (64*i)%2 ^ 64:=by
 have p2:∀k,0<2 ^ k:=fun k=>Nat.pow_pos (by omega)
 have e1:r / 2 ^ (64*(i+1))=r / 2 ^ (64*i) / 2 ^ 64:=by rw[Nat.div_div_eq_div_mul,←Nat.pow_add,Nat.mul_add]
 have e2:r / 2 ^ k / 2 ^ (64*i)=r / 2 ^ (64*i) / 2 ^ k:=by rw[Nat.div_div_eq_div_mul,Nat.div_div_eq_div_mul,Nat.mul_comm]
 rw[e1,e2]
 generalize r / 2 ^ (64*i)=q
 have s64:(2:Nat) ^ 64=2 ^ (64-k)*2 ^ k:=by rw[←Nat.pow_add];congr 1;omega
 have h1:q / 2 ^ 64%2 ^ 64*2 ^ (64-k)%2 ^ 64=2 ^ (64-k)*(q / 2 ^ 64%2 ^ k):=by
  have hd:2 ^ k ∣ 2 ^ 64:=Nat.pow_dvd_pow 2 (by omega)
  rw[←Nat.mod_mod_of_dvd (q / 2 ^ 64) hd]
  generalize q / 2 ^ 64%2 ^ 64=h
  rw[Nat.mul_comm h]
  conv=>lhs;rw[s64]
  rw[Nat.mul_mod_mul_left]
 have h2:q%2 ^ 64 / 2 ^ k<2 ^ (64-k):=by
  rw[Nat.div_lt_iff_lt_mul (p2 _),←s64]
  exact Nat.mod_lt _ (p2 _)
 rw[h1,or_sum h2]
 have h3:q / 2 ^ k%2 ^ 64=q / 2 ^ k%2 ^ (64-k)+2 ^ (64-k)*(q / 2 ^ k / 2 ^ (64-k)%2 ^ k):=by rw[s64,Nat.mod_mul]
 have h4:q / 2 ^ k / 2 ^ (64-k)=q / 2 ^ 64:=by rw[Nat.div_div_eq_div_mul,←Nat.pow_add];congr 2;omega
 have h5:q%2 ^ 64 / 2 ^ k=q / 2 ^ k%2 ^ (64-k):=by rw[s64,Nat.mul_comm,Nat.mod_mul_right_div_self]
 rw[h3,h4,h5]
theorem shift_word {r k i:Nat} (hk0:1≤k) (hk:k≤63) {x y w:Int} (hx:x=shrv .u64 (lm r i) k) (hy:y=shlv .u64 (lm r (i+1)) (64-k)) (hw:w=bor .u64 x y):w=lm (r / 2 ^ k) i:=by
 have l0:r / 2 ^ (64*i)%2 ^ 64<2 ^ 64:=Nat.mod_lt _ (Nat.pow_pos (by omega))
 have ex:x=((r / 2 ^ (64*i)%2 ^ 64 / 2 ^ k:Nat):Int):=by
  rw[hx,lm_nat,shr64 (Int.natCast_nonneg _) (by omega),Int.natCast_ediv,Int.natCast_pow]
  rfl
 have ey:y=((r / 2 ^ (64*(i+1))%2 ^ 64*2 ^ (64-k)%2 ^ 64:Nat):Int):=by rw[hy,lm_nat,shl_nat (by omega)]
 obtain ⟨e,_⟩:=bor_eq (show Wd x by rw[ex];exact wd_nat (Nat.lt_of_le_of_lt (Nat.div_le_self _ _) l0)) (show Wd y by rw[ey];exact wd_nat (Nat.mod_lt _ (Nat.pow_pos (by omega))))
 rw[hw,e,ex,ey,Int.toNat_natCast,Int.toNat_natCast,shift_nat hk0 hk,lm_nat]
theorem lm4 {r:Nat} (h:r<2135987035920910082395021706169552114602704522356652769947041607822219725780640550022962086936576):lm r 4=((r / 115792089237316195423570985008687907853269984665640564039457584007913129639936:Nat):Int):=by
 unfold lm
 simp only[Nat.reducePow]
 omega
theorem band_top {w:Nat} (h:w<2 ^ 64):band .u64 (w:Int) 9223372036854775808≠0↔9223372036854775808≤w:=by
 obtain ⟨e,_⟩:=band_eq (wd_nat h) (show Wd 9223372036854775808 by unfold Wd;omega)
 have a:=and_high h (k:=63) (by omega)
 rw[show (2 ^ 64-1) ^^^ (2 ^ 63-1)=2 ^ 63 by decide]at a
 rw[e,Int.toNat_natCast,show (9223372036854775808:Int).toNat=2 ^ 63 from rfl,a]
 omega
theorem sign_bit {z:Int} (h0: -1067993517960455041197510853084776057301352261178326384973520803911109862890320275011481043468288≤z) (h1:z<1067993517960455041197510853084776057301352261178326384973520803911109862890320275011481043468288) {x:Int} (hx:x=band .u64 (lm (m5 z) 4) 9223372036854775808):x≠0↔z<0:=by
 have hl:=m5_lt z
 rw[hx,lm4 hl,band_top (by omega)]
 unfold m5
 omega
theorem m5_pos {z:Int} (h0:0≤z) (h1:z<2135987035920910082395021706169552114602704522356652769947041607822219725780640550022962086936576):m5 z=z.natAbs:=by unfold m5;omega
theorem m5_neg {z:Int} (h0:z<0) (h1: -2135987035920910082395021706169552114602704522356652769947041607822219725780640550022962086936576<z):m5 (-(V4 (lm (m5 z) 0) (lm (m5 z) 1) (lm (m5 z) 2) (lm (m5 z) 3)+lm (m5 z) 4*115792089237316195423570985008687907853269984665640564039457584007913129639936))=z.natAbs:=by
 rw[lm5_val (m5_lt z)]
 unfold m5
 omega
theorem psgn_pm (s:PS):psgn s=1∨psgn s= -1:=by
 unfold psgn e2 Num.e4
 split<;>(try split)<;>(try split)<;>(try split)<;>first | exact .inl rfl | exact .inr rfl
theorem psgns_pm (s:PS):∀n,psgns n s=1∨psgns n s= -1
 | 0=> .inl rfl
 | n+1=>by
  rw[psgns]
  rcases psgns_pm s n with h | h<;>rcases psgn_pm (prun n s)with g | g<;>rw[h,g]<;>decide
def NegW (r:Nat):Nat:=m5 (-(V4 (lm r 0) (lm r 1) (lm r 2) (lm r 3)+lm r 4*115792089237316195423570985008687907853269984665640564039457584007913129639936))
def LeafP (T:Nat→PS→Int→Prop) (j:Nat) (R:Prop) (c0 c1 l x y jn:Int):Prop:=
 ∃i:PrI,T i.j i.s i.l∧(((c0=pk i.s.f0 i.s.g0∧c1=pk i.s.f1 i.s.g1∧l=i.l∧x=(i.s.x:Nat)∧y=(i.s.y:Nat)∧jn=(i.j:Nat))∧R)∧31-i.j<31-j)
def EndP (T:Nat→PS→Int→Prop) (j:Nat) (R:Prop) (c0 cc l x y:Int):Prop:=
 ∀c1,c1=IntKind.i64.wrap (cc*2)→∀jn,jn=IntKind.i64.wrap ((j:Int)+1)→LeafP T j R c0 c1 l x y jn
def SgnP (y l:Int) (K:Int→Prop):Prop:=
 ∀b,b=band .u64 y 7→((b==3)=true→∀l',l'=IntKind.i64.wrap (0-l)→K l')∧((b==3)=false→((b==5)=true→∀l',l'=IntKind.i64.wrap (0-l)→K l')∧((b==5)=false→K l))
def OddP (x y p0 p1 l:Int) (K:Int→Int→Int→Prop):Prop:=
 ∀a,a=IntKind.u64.wrap (y-x)→∀b,b=IntKind.u64.wrap (Int.tdiv a 2)→∀c,c=IntKind.i64.wrap (p1-p0)→SgnP x l fun l'=>K c b l'
def RoundP (T:Nat→PS→Int→Prop) (j:Nat) (R:Prop) (x y p0 p1 l:Int):Prop:=
 ∀e,e=band .u64 x 1→((e==0)=true→∀h,h=IntKind.u64.wrap (Int.tdiv x 2)→SgnP y l fun l'=>EndP T j R p0 p1 l' h y)∧
  ((e==0)=false→(Wd x∧Wd y∧(0:Int)≤0∧(0:Int)≤1)∧∀d,d=difLo x y 0→∀b,b=difHi x y 0→
   ((b==1)=true→∀u,u=band .u64 y 3→((u==3)=true→∀v,v=band .u64 x 3→((v==3)=true→∀l',l'=IntKind.i64.wrap (0-l)→OddP x y p0 p1 l' fun c b l'=>EndP T j R c p0 l' b x)∧((v==3)=false→OddP x y p0 p1 l fun c b l'=>EndP T j R c p0 l' b x))∧
    ((u==3)=false→OddP x y p0 p1 l fun c b l'=>EndP T j R c p0 l' b x))∧
   ((b==1)=false→∀h,h=IntKind.u64.wrap (Int.tdiv d 2)→∀c,c=IntKind.i64.wrap (p0-p1)→SgnP y l fun l'=>EndP T j R c p1 l' h y))
def ShP (r k:Nat) (K:Int→Int→Int→Int→Prop):Prop:=
 ∀a,a=shrv .u64 (lm r 0) k→∀b,b=shlv .u64 (lm r 1) (64-k)→∀w0,w0=bor .u64 a b→∀a,a=shrv .u64 (lm r 1) k→∀b,b=shlv .u64 (lm r 2) (64-k)→∀w1,w1=bor .u64 a b→
 ∀a,a=shrv .u64 (lm r 2) k→∀b,b=shlv .u64 (lm r 3) (64-k)→∀w2,w2=bor .u64 a b→∀a,a=shrv .u64 (lm r 3) k→∀b,b=shlv .u64 (lm r 4) (64-k)→∀w3,w3=bor .u64 a b→K w0 w1 w2 w3
def WdR (r:Nat):Prop:=(Wd (lm r 0)∧Wd (lm r 1)∧Wd (lm r 2)∧Wd (lm r 3))∧Wd (lm r 4)
def CombP (x0 x1 x2 x3 b0 b1 b2 b3:Int) (p:Int) (K:Nat→Prop):Prop:=
 ∀f,f=udF p→∀g,g=udG p→(((Wd x0∧Wd x1∧Wd x2∧Wd x3)∧Wd b0∧Wd b1∧Wd b2∧Wd b3)∧I64 f∧I64 g)∧∀r,r=m5 (V4 x0 x1 x2 x3*f+V4 b0 b1 b2 b3*g)→K r
def LgEnd (S:LgI→Prop) (i0:LgI) (x0 x1 x2 x3 l w0 w1 w2 w3 v0 v1 v2 v3:Int):Prop:=
 ∃i:LgI,S i∧((l=i.l∧(w0=i.a0∧w1=i.a1∧w2=i.a2∧w3=i.a3)∧(v0=i.b0∧v1=i.b1∧v2=i.b2∧v3=i.b3)∧x0=i.s0∧x1=i.s1∧x2=i.s2∧x3=i.s3)∧i.m<i0.m)
def LgB (S:LgI→Prop) (i:LgI) (x0 x1 x2 x3 p1 l w0 w1 w2 w3:Int):Prop:=
 CombP x0 x1 x2 x3 i.b0 i.b1 i.b2 i.b3 p1 fun r=>∀t,t=band .u64 (lm r 4) 9223372036854775808→((t !=0)=true→WdR r∧∀r',r'=NegW r→ShP r' 30 fun v0 v1 v2 v3=>LgEnd S i x0 x1 x2 x3 l w0 w1 w2 w3 v0 v1 v2 v3)∧
  ((t !=0)=false→ShP r 30 fun v0 v1 v2 v3=>LgEnd S i x0 x1 x2 x3 l w0 w1 w2 w3 v0 v1 v2 v3)
def AfterP (S:LgI→Prop) (i:LgI) (y p0 p1 l:Int):Prop:=
 ∀x0,x0=i.a0→∀x1,x1=i.a1→∀x2,x2=i.a2→∀x3,x3=i.a3→CombP x0 x1 x2 x3 i.b0 i.b1 i.b2 i.b3 p0 fun r=>∀t,t=band .u64 (lm r 4) 9223372036854775808→
  ((t !=0)=true→WdR r∧∀r',r'=NegW r→∀u,u=band .u64 y 3→((u==3)=true→∀l',l'=IntKind.i64.wrap (0-l)→ShP r' 30 fun w0 w1 w2 w3=>LgB S i x0 x1 x2 x3 p1 l' w0 w1 w2 w3)∧((u==3)=false→ShP r' 30 fun w0 w1 w2 w3=>LgB S i x0 x1 x2 x3 p1 l w0 w1 w2 w3))∧
  ((t !=0)=false→ShP r 30 fun w0 w1 w2 w3=>LgB S i x0 x1 x2 x3 p1 l w0 w1 w2 w3)
def WdA (i:LgI):Prop:=Wd i.a0∧Wd i.a1∧Wd i.a2∧Wd i.a3
def WdB (i:LgI):Prop:=Wd i.b0∧Wd i.b1∧Wd i.b2∧Wd i.b3
def VA (i:LgI):Int:=V4 i.a0 i.a1 i.a2 i.a3
def VB (i:LgI):Int:=V4 i.b0 i.b1 i.b2 i.b3
def R4 (i:LgI):Prop:=(i.a0=i.a0∧i.a1=i.a1∧i.a2=i.a2∧i.a3=i.a3)∧(i.b0=i.b0∧i.b1=i.b1∧i.b2=i.b2∧i.b3=i.b3)∧i.s0=i.s0∧i.s1=i.s1∧i.s2=i.s2∧i.s3=i.s3
def FinM (i:LgI):Mem:=memL [(545,⟨false,w4 i.a0 i.a1 i.a2 i.a3⟩),(569,⟨false,w4 i.b0 i.b1 i.b2 i.b3⟩),(601,⟨false,w4 i.s0 i.s1 i.s2 i.s3⟩)]
def SloP (k:PrI) (c0 c1 l x y j:Int):Prop:=c0=pk k.s.f0 k.s.g0∧c1=pk k.s.f1 k.s.g1∧l=k.l∧x=(k.s.x:Nat)∧y=(k.s.y:Nat)∧j=((k.j:Nat):Int)
theorem vc_lg (S:LgI→Prop) (T:Int→Int→Int→Nat→PS→Int→Prop) (z0 z1 z2 z3:Int) (K:SV→Mem→Prop):(execF cxLg (uLg S T) Tryz.f81 64 [.ptr 1 (.lit 0)] (memL [(1,⟨true,w4 z0 z1 z2 z3⟩)]) K)=
 (∀x0,x0=z0→∀x1,x1=z1→∀x2,x2=z2→∀x3,x3=z3→
  (∃i:LgI,S i∧1=i.l∧(x0=i.a0∧x1=i.a1∧x2=i.a2∧x3=i.a3)∧(4332616871279656263=i.b0∧10917124144477883021=i.b1∧13281191951274694749=i.b2∧3486998266802970665=i.b3)∧0=i.s0∧0=i.s1∧0=i.s2∧0=i.s3)∧
  ∀i:LgI,S i→WdA i∧
   ((!decide (VA i=0))=true→WdA i∧∀n0,n0=((bl (VA i).toNat:Nat):Int)→WdB i∧∀n1,n1=((bl (VB i).toNat:Nat):Int)→∀n,n=(if n1>n0 then n1 else n0)→
    (WdA i∧(0≤n∧n≤256)∧(VA i).toNat<2 ^ n.toNat)∧∀xa,xa=((apx 32 n.toNat (VA i).toNat:Nat):Int)→(WdB i∧(0≤n∧n≤256)∧(VB i).toNat<2 ^ n.toNat)∧∀xb,xb=((apx 32 n.toNat (VB i).toNat:Nat):Int)→
    (∃k:PrI,T xa xb i.l k.j k.s k.l∧SloP k 1 4294967296 i.l xa xb 0∧R4 i)∧
    ∀k:PrI,T xa xb i.l k.j k.s k.l→
     (decide (((k.j:Nat):Int)<30)=true→RoundP (T xa xb i.l) k.j (R4 i) (k.s.x:Nat) (k.s.y:Nat) (pk k.s.f0 k.s.g0) (pk k.s.f1 k.s.g1) k.l)∧
     (decide (((k.j:Nat):Int)<30)=false→AfterP S i (k.s.y:Nat) (pk k.s.f0 k.s.g0) (pk k.s.f1 k.s.g1) k.l))∧
   ((!decide (VA i=0))=false→((i.b0==1)=true→∀u,u=bor .u64 i.b1 i.b2→∀v,v=bor .u64 u i.b3→((v==0)=true→K (.int .i64 (.sym i.l)) (FinM i))∧((v==0)=false→K (.int .i64 (.lit 0)) (FinM i)))∧
    ((i.b0==1)=false→K (.int .i64 (.lit 0)) (FinM i)))):=by kernel_rfl
theorem band_nat (x:Nat) (hx:x<2 ^ 64) {n:Nat} (hn:n≤64) {L:Int} (hL:L=2 ^ n-1):band .u64 (x:Int) L=((x%2 ^ n:Nat):Int):=by
 rw[hL,band_mask (wd_nat hx) hn,Int.natCast_emod,Int.natCast_pow]
 rfl
theorem neg_l {l l':Int} (h:l=1∨l= -1) (h':l'=IntKind.i64.wrap (0-l)):l'= -l:=by
 rw[wrap64 (by omega) (by omega)]at h'
 omega
theorem SgnP.of {y:Nat} (hy:y<2 ^ 64) {l:Int} {K:Int→Prop} (hl:l=1∨l= -1) (h:K (l*e2 y)):SgnP y l K:=by
 intro b hb
 rw[band_nat y hy (n:=3) (by omega) (by decide)]at hb
 simp only[beq_iff_eq,beq_eq_false_iff_ne,ne_eq]
 refine ⟨fun h3 l' hl'=> ?_,fun h3=>⟨fun h5 l' hl'=> ?_,fun h5=> ?_⟩⟩
 ·have e:e2 y= -1:=by unfold e2;rw[if_pos (by omega)]
  rw[e]at h
  rw[neg_l hl hl',show -l=l* -1 by omega]
  exact h
 ·have e:e2 y= -1:=by unfold e2;rw[if_pos (by omega)]
  rw[e]at h
  rw[neg_l hl hl',show -l=l* -1 by omega]
  exact h
 ·have e:e2 y=1:=by unfold e2;rw[if_neg (by omega)]
  rw[e,Int.mul_one]at h
  exact h
theorem EndP.of {m j:Nat} {xa xb l0 l:Int} {s:PS} {R:Prop} {c0 cc l' x y:Int} (hT:PrT m xa xb l0 j s l) (hj:j<m) (hm:m≤31) (h0:c0=pk (pstep s).f0 (pstep s).g0) (h1:IntKind.i64.wrap (cc*2)=pk (pstep s).f1 (pstep s).g1) (h2:l'=l*psgn s)
  (h3:x=((pstep s).x:Nat)) (h4:y=((pstep s).y:Nat)) (hR:R):EndP (PrT m xa xb l0) j R c0 cc l' x y:=by
 intro c1 hc jn hjn
 rw[wrap64 (by omega) (by omega)]at hjn
 obtain ⟨_,hs,hl⟩:=hT
 refine ⟨⟨j+1,pstep s,l'⟩,⟨hj,?_,?_⟩,⟨⟨h0,by rw[hc,h1],rfl,h3,h4,by simp only;omega⟩,hR⟩,by simp only;omega⟩
 ·simp only
  rw[prun,←hs]
 ·simp only
  rw[h2,hl,psgns,←hs,Int.mul_assoc]
theorem half_nat {x:Nat} (hx:x<2 ^ 64) {h:Int} (hh:h=IntKind.u64.wrap (Int.tdiv (x:Int) 2)):h=((x / 2:Nat):Int):=by
 rw[Int.tdiv_eq_ediv_of_nonneg (by omega),wu64]at hh
 omega
theorem RoundP.of {m j:Nat} {xa xb l0:Int} {s:PS} {l:Int} {R:Prop} (hT:PrT m xa xb l0 j s l) (hj:j<m) (hm:m≤31) (hx:s.x<2 ^ 64) (hy:s.y<2 ^ 64) (hl:l=1∨l= -1) (hR:R):
  RoundP (PrT m xa xb l0) j R (s.x:Nat) (s.y:Nat) (pk s.f0 s.g0) (pk s.f1 s.g1) l:=by
 intro e he
 rw[band_nat s.x hx (n:=1) (by omega) (by decide)]at he
 simp only[beq_iff_eq,beq_eq_false_iff_ne,ne_eq]
 refine ⟨fun h0 h hh=> ?_,fun h0=>⟨⟨wd_nat hx,wd_nat hy,Int.le_refl _,by decide⟩,fun d hd b hb=>⟨fun h1=> ?_,fun h1=> ?_⟩⟩⟩
 ·have hx2:s.x%2=0:=by omega
  have ep:pstep s=⟨s.x / 2,s.y,s.f0,s.g0,2*s.f1,2*s.g1⟩:=by unfold pstep;rw[if_pos hx2]
  have es:psgn s=e2 s.y:=by unfold psgn;rw[if_pos hx2]
  refine SgnP.of hy hl (EndP.of hT hj hm ?_ ?_ ?_ ?_ ?_ hR)
  ·rw[ep]
  ·rw[ep,pk_dbl]
  ·rw[es]
  ·rw[ep];exact half_nat hx hh
  ·rw[ep]
 ·have hx2:s.x%2=1:=by omega
  have hlt:s.x<s.y:=by
   unfold difHi at hb
   split at hb<;>omega
  have ep:pstep s=⟨(s.y-s.x) / 2,s.x,s.f1-s.f0,s.g1-s.g0,2*s.f0,2*s.g0⟩:=by unfold pstep;rw[if_neg (by omega),if_pos hlt]
  have es:psgn s=Num.e4 s.x s.y*e2 s.x:=by unfold psgn;rw[if_neg (by omega),if_pos hlt]
  have odd:∀l':Int,l'=l*Num.e4 s.x s.y→OddP (s.x:Nat) (s.y:Nat) (pk s.f0 s.g0) (pk s.f1 s.g1) l' fun c b l'=>EndP (PrT m xa xb l0) j R c (pk s.f0 s.g0) l' b (s.x:Nat):=by
   intro l' hl' a ha b hb c hc
   have hlp:l'=1∨l'= -1:=by
    rw[hl']
    unfold Num.e4
    rcases hl with hl | hl<;>split<;>omega
   have ea:a=((s.y-s.x:Nat):Int):=by rw[ha,wu64];omega
   refine SgnP.of hx hlp (EndP.of hT hj hm ?_ ?_ ?_ ?_ ?_ hR)
   ·rw[ep,hc,pk_dif]
   ·rw[ep,pk_dbl]
   ·rw[es,hl',Int.mul_assoc]
   ·rw[ep]
    rw[ea]at hb
    exact half_nat (by omega) hb
   ·rw[ep]
  intro u hu
  rw[band_nat s.y hy (n:=2) (by omega) (by decide)]at hu
  refine ⟨fun h3 v hv=>⟨fun h4 l' hl'=> ?_,fun h4=> ?_⟩,fun h3=> ?_⟩
  ·rw[band_nat s.x hx (n:=2) (by omega) (by decide)]at hv
   refine odd l' ?_
   rw[neg_l hl hl']
   unfold Num.e4
   rw[if_pos (by omega)]
   omega
  ·rw[band_nat s.x hx (n:=2) (by omega) (by decide)]at hv
   refine odd l ?_
   unfold Num.e4
   rw[if_neg (by omega),Int.mul_one]
  ·refine odd l ?_
   unfold Num.e4
   rw[if_neg (by omega),Int.mul_one]
 ·have hx2:s.x%2=1:=by omega
  have hge:¬s.x<s.y:=by
   unfold difHi at hb
   split at hb<;>omega
  have ep:pstep s=⟨(s.x-s.y) / 2,s.y,s.f0-s.f1,s.g0-s.g1,2*s.f1,2*s.g1⟩:=by unfold pstep;rw[if_neg (by omega),if_neg hge]
  have es:psgn s=e2 s.y:=by unfold psgn;rw[if_neg (by omega),if_neg hge]
  intro h hh c hc
  have ed:d=((s.x-s.y:Nat):Int):=by rw[hd];unfold difLo;omega
  refine SgnP.of hy hl (EndP.of hT hj hm ?_ ?_ ?_ ?_ ?_ hR)
  ·rw[ep,hc,pk_dif]
  ·rw[ep,pk_dbl]
  ·rw[es]
  ·rw[ep]
   rw[ed]at hh
   exact half_nat (by omega) hh
  ·rw[ep]
theorem ShP.of {r k:Nat} {K:Int→Int→Int→Int→Prop} (hk0:1≤k) (hk:k≤63) (h:K (lm (r / 2 ^ k) 0) (lm (r / 2 ^ k) 1) (lm (r / 2 ^ k) 2) (lm (r / 2 ^ k) 3)):ShP r k K:=by
 intro a ha b hb w0 h0 a' ha' b' hb' w1 h1 a2 ha2 b2 hb2 w2 h2 a3 ha3 b3 hb3 w3 h3
 rw[shift_word hk0 hk ha hb h0,shift_word hk0 hk ha' hb' h1,shift_word hk0 hk ha2 hb2 h2,shift_word hk0 hk ha3 hb3 h3]
 exact h
theorem CombP.of {x0 x1 x2 x3 b0 b1 b2 b3 f g:Int} {a b:Nat} {K:Nat→Prop} (hx:Ws x0 x1 x2 x3 a) (hb:Ws b0 b1 b2 b3 b) (hf: -2147483648<f∧f≤2147483648) (hg: -2147483648<g∧g≤2147483648) (h:∀r,r=m5 (f*a+g*b)→K r):CombP x0 x1 x2 x3 b0 b1 b2 b3 (pk f g) K:=by
 obtain ⟨ef,eg⟩:=ud_of hf.1 hf.2 hg.1 hg.2
 intro f' hf' g' hg'
 have e1:f'=f:=hf'.trans ef
 have e2:g'=g:=hg'.trans eg
 rw[e1,e2]
 refine ⟨⟨⟨hx.wd,hb.wd⟩,by unfold I64;omega,by unfold I64;omega⟩,fun r hr=>h r ?_⟩
 rw[hr,hx.val,hb.val,Int.mul_comm f,Int.mul_comm g]
theorem sign_of {m r:Nat} {A z:Int} (hz:((2 ^ m:Nat):Int)*A=z) (hm:m≤31) (hA:A.natAbs≤115792089237316195423570985008687907853269984665640564039457584007913129639936) (hr:r=m5 z) {t:Int} (ht:t=band .u64 (lm r 4) 9223372036854775808):
  (t≠0↔A<0)∧(A<0→NegW r / 2 ^ m=A.natAbs)∧(0≤A→r / 2 ^ m=A.natAbs)∧r<2135987035920910082395021706169552114602704522356652769947041607822219725780640550022962086936576:=by
 have hp:0<2 ^ m:=Nat.pow_pos (by omega)
 have hp2:2 ^ m≤2 ^ 31:=Nat.pow_le_pow_right (by omega) hm
 have h1:=natAbs_of_mul hz
 have h2:2 ^ m*A.natAbs≤2 ^ 31*115792089237316195423570985008687907853269984665640564039457584007913129639936:=Nat.mul_le_mul hp2 hA
 have hsg:z<0↔A<0:=by
  constructor
  ·intro h
   apply Classical.byContradiction
   intro hn
   have:=Int.mul_nonneg (show (0:Int)≤((2 ^ m:Nat):Int) from Int.natCast_nonneg _) (show 0≤A by omega)
   omega
  ·intro h
   have:=Int.mul_neg_of_pos_of_neg (show (0:Int)<((2 ^ m:Nat):Int) by omega) h
   omega
 have hb:=sign_bit (z:=z) (by omega) (by omega) (show t=band .u64 (lm (m5 z) 4) 9223372036854775808 by rw[←hr];exact ht)
 refine ⟨hb.trans hsg,fun h=> ?_,fun h=> ?_,by rw[hr];exact m5_lt z⟩
 ·unfold NegW
  rw[hr,m5_neg (hsg.2 h) (by omega),←h1,Nat.mul_div_cancel_left _ hp]
 ·have:¬z<0:=fun q=>by have:=hsg.1 q;omega
  rw[hr,m5_pos (by omega) (by omega),←h1,Nat.mul_div_cancel_left _ hp]
theorem wdr (r:Nat):WdR r:=⟨⟨lm_wd _ _,lm_wd _ _,lm_wd _ _,lm_wd _ _⟩,lm_wd _ _⟩
theorem ws_lm {x:Nat} (h:x<115792089237316195423570985008687907853269984665640564039457584007913129639936):Ws (lm x 0) (lm x 1) (lm x 2) (lm x 3) x:=⟨rfl,rfl,rfl,rfl,h⟩
theorem fac_bd {f g:Int} {p x0 y0:Nat} {s:PS} (hl:Lin p x0 y0 s) (hp:p≤2147483648):((-2147483648<s.f0∧s.f0≤2147483648)∧(-2147483648<s.g0∧s.g0≤2147483648))∧(-2147483648<s.f1∧s.f1≤2147483648)∧(-2147483648<s.g1∧s.g1≤2147483648):=by
 have h0:=hl.s0
 have h1:=hl.s1
 have h2:=hl.lo
 omega
theorem apx_lt {lo n a:Nat} (hlo:lo≤32) (h:a<2 ^ n):apx lo n a<2 ^ 64:=by
 unfold apx
 split
 ·rename_i hn
  exact Nat.lt_of_lt_of_le h (Nat.pow_le_pow_right (by omega) hn)
 ·rename_i hn
  have h1:a / 2 ^ (n-(64-lo))<2 ^ (64-lo):=by
   rw[Nat.div_lt_iff_lt_mul (Nat.pow_pos (by omega)),←Nat.pow_add,show 64-lo+(n-(64-lo))=n by omega]
   exact h
  have h2:=Nat.mod_lt a (show 0<2 ^ lo from Nat.pow_pos (by omega))
  have h3:2 ^ lo*(a / 2 ^ (n-(64-lo))+1)≤2 ^ lo*2 ^ (64-lo):=Nat.mul_le_mul_left _ h1
  rw[←Nat.pow_add,show lo+(64-lo)=64 by omega,Nat.mul_add]at h3
  omega
theorem prun_lt {x0 y0:Nat} {f g f' g':Int} (hx:x0<2 ^ 64) (hy:y0<2 ^ 64):∀n,(prun n ⟨x0,y0,f,g,f',g'⟩).x<2 ^ 64∧(prun n ⟨x0,y0,f,g,f',g'⟩).y<2 ^ 64
 | 0=>⟨hx,hy⟩
 | n+1=>by
  obtain ⟨h1,h2⟩:=prun_lt (f:=f) (g:=g) (f':=f') (g':=g') hx hy n
  rw[prun]
  generalize prun n ⟨x0,y0,f,g,f',g'⟩=s at h1 h2 ⊢
  unfold pstep
  split
  ·simp only;omega
  ·split<;>simp only<;>omega
theorem AfterP.of {z a b n:Nat} {i:LgI} {s:PS} {l:Int} {A B:Int} (ha:Ws i.a0 i.a1 i.a2 i.a3 a) (hb:Ws i.b0 i.b1 i.b2 i.b3 b) (haq:a≤qN) (hbq:b≤qN) (ha0:0<a) (hi:i.l=1∨i.l= -1) (hJ:J z qN=i.l*J a b)
  (hs:s=prun 30 ⟨apx 32 n a,apx 32 n b,1,0,0,1⟩) (hl:l=i.l*psgns 30 ⟨apx 32 n a,apx 32 n b,1,0,0,1⟩) (hL:Lin (2 ^ 30) (apx 32 n a) (apx 32 n b) s) (hO:Num.Out 32 30 n a b s A B) (han:a<2 ^ n) (hbn:b<2 ^ n):
  AfterP (LgQ z) i (s.y:Nat) (pk s.f0 s.g0) (pk s.f1 s.g1) l:=by
 obtain ⟨⟨f0b,g0b⟩,f1b,g1b⟩:=fac_bd (f:=0) (g:=0) hL (by decide)
 obtain ⟨hAle,hBle⟩:=hO.le qN haq hbq
 have hy4:B%4=(s.y:Int)%4:=by
  obtain ⟨t,ht⟩:=hO.low
  have:((2 ^ (32-30):Nat):Int)*t=4*t:=rfl
  rw[this]at ht
  omega
 have hy64:s.y<2 ^ 64:=by
  rw[hs]
  exact (prun_lt (apx_lt (by omega) han) (apx_lt (by omega) hbn) 30).2
 have hlp:l=1∨l= -1:=by
  rw[hl]
  rcases hi with h | h<;>rcases psgns_pm ⟨apx 32 n a,apx 32 n b,1,0,0,1⟩ 30 with g | g<;>rw[h,g]<;>decide
 have hsym:=hO.symK (by decide)
 have hK:∀u v:Nat,K (u:Int) (v:Int)=J u v:=fun u v=>by unfold K;rw[Int.natAbs_natCast]
 rw[hK,hK]at hsym
 have hfin:J z qN=(l*(if A<0∧B%4=3 then -1 else 1))*J A.natAbs B.natAbs:=by
  rw[hJ,hsym,hl]
  simp only[Int.mul_assoc]
 have endp:∀l' x0 x1 x2 x3:Int,l'=l*(if A<0∧B%4=3 then -1 else 1)→LgEnd (LgQ z) i x0 x1 x2 x3 l' (lm A.natAbs 0) (lm A.natAbs 1) (lm A.natAbs 2) (lm A.natAbs 3) (lm B.natAbs 0) (lm B.natAbs 1) (lm B.natAbs 2) (lm B.natAbs 3):=by
  intro l' x0 x1 x2 x3 hl'
  have wa:Ws (lm A.natAbs 0) (lm A.natAbs 1) (lm A.natAbs 2) (lm A.natAbs 3) A.natAbs:=ws_lm (by unfold qN at hAle;omega)
  have wb:Ws (lm B.natAbs 0) (lm B.natAbs 1) (lm B.natAbs 2) (lm B.natAbs 3) B.natAbs:=ws_lm (by unfold qN at hBle;omega)
  refine ⟨⟨lm A.natAbs 0,lm A.natAbs 1,lm A.natAbs 2,lm A.natAbs 3,lm B.natAbs 0,lm B.natAbs 1,lm B.natAbs 2,lm B.natAbs 3,l',x0,x1,x2,x3⟩,⟨A.natAbs,B.natAbs,wa,wb,.inr ⟨⟨hAle,hBle,hO.odd,hO.cop⟩,?_,?_⟩⟩,⟨rfl,⟨rfl,rfl,rfl,rfl⟩,⟨rfl,rfl,rfl,rfl⟩,rfl,rfl,rfl,rfl⟩,?_⟩
  ·show l'=1∨l'= -1
   rw[hl']
   rcases hlp with h | h<;>split<;>omega
  ·show J z qN=l'*J A.natAbs B.natAbs
   rw[hl']
   exact hfin
  ·have hd:=hO.dec ha0
   unfold LgI.m
   simp only
   rw[wa.val,wb.val,ha.val,hb.val]
   simp only[Int.toNat_natCast]
   exact hd
 have lgb:∀l':Int,l'=l*(if A<0∧B%4=3 then -1 else 1)→LgB (LgQ z) i i.a0 i.a1 i.a2 i.a3 (pk s.f1 s.g1) l' (lm A.natAbs 0) (lm A.natAbs 1) (lm A.natAbs 2) (lm A.natAbs 3):=by
  intro l' hl'
  refine CombP.of ha hb f1b g1b fun r hr t ht=> ?_
  obtain ⟨q1,q2,q3,q4⟩:=sign_of hO.rb (by decide) (by unfold qN at hBle;omega) hr ht
  simp only[bne_iff_ne,bne_eq_false_iff_eq,ne_eq]
  refine ⟨fun h=>⟨wdr r,fun r' hr'=> ?_⟩,fun h=> ?_⟩
  ·refine ShP.of (by decide) (by decide) ?_
   rw[hr',q2 (q1.1 h)]
   exact endp l' _ _ _ _ hl'
  ·refine ShP.of (by decide) (by decide) ?_
   rw[q3 (by have:=mt q1.2 (fun c=>c h);omega)]
   exact endp l' _ _ _ _ hl'
 rintro _ rfl _ rfl _ rfl _ rfl
 refine CombP.of ha hb f0b g0b fun r hr t ht=> ?_
 obtain ⟨q1,q2,q3,q4⟩:=sign_of hO.ra (by decide) (by unfold qN at hAle;omega) hr ht
 simp only[bne_iff_ne,bne_eq_false_iff_eq,ne_eq]
 refine ⟨fun h=>⟨wdr r,fun r' hr' u hu=> ?_⟩,fun h=> ?_⟩
 ·have hAn:=q1.1 h
  rw[band_nat s.y hy64 (n:=2) (by omega) (by decide)]at hu
  simp only[beq_iff_eq,beq_eq_false_iff_ne,ne_eq]
  refine ⟨fun h3 l' hl'=>ShP.of (by decide) (by decide) ?_,fun h3=>ShP.of (by decide) (by decide) ?_⟩
  ·rw[hr',q2 hAn]
   refine lgb l' ?_
   rw[neg_l hlp hl',if_pos ⟨hAn,by omega⟩]
   omega
  ·rw[hr',q2 hAn]
   refine lgb l ?_
   rw[if_neg (by omega),Int.mul_one]
 ·have hAn:¬A<0:=fun c=>(q1.2 c) h
  refine ShP.of (by decide) (by decide) ?_
  rw[q3 (by omega)]
  refine lgb l ?_
  rw[if_neg (by omega),Int.mul_one]
theorem q_ws:Ws 4332616871279656263 10917124144477883021 13281191951274694749 3486998266802970665 qN:=by
 refine ⟨by decide,by decide,by decide,by decide,by unfold qN;omega⟩
theorem q_pri:Pri qN:=pri_q
theorem q_odd:qN%2=1:=by decide
theorem ws_zero {a b c d:Int} {x:Nat} (h:Ws a b c d x) (hv:V4 a b c d=0):x=0:=by
 rw[h.val]at hv
 omega
theorem max_bl {a b:Nat} {n0 n1 n:Int} (ha:a≤qN) (hb:b≤qN) (h0:n0=((bl a:Nat):Int)) (h1:n1=((bl b:Nat):Int)) (hn:n=(if n1>n0 then n1 else n0)):
  (0≤n∧n≤256)∧a<2 ^ n.toNat∧b<2 ^ n.toNat∧(64<n.toNat→2 ^ (n.toNat-1)≤a∨2 ^ (n.toNat-1)≤b):=by
 obtain ⟨a1,a2⟩:=bl_spec a
 obtain ⟨b1,b2⟩:=bl_spec b
 have la:bl a≤254:=bl_le (by unfold qN at ha;omega)
 have lb:bl b≤254:=bl_le (by unfold qN at hb;omega)
 have key:∀N,N=max (bl a) (bl b)→a<2 ^ N∧b<2 ^ N∧(64<N→2 ^ (N-1)≤a∨2 ^ (N-1)≤b):=by
  intro N hN
  refine ⟨Nat.lt_of_lt_of_le a1 (Nat.pow_le_pow_right (by omega) (by omega)),Nat.lt_of_lt_of_le b1 (Nat.pow_le_pow_right (by omega) (by omega)),fun h=> ?_⟩
  rcases Nat.le_total (bl a) (bl b)with hle | hle
  ·have:N=bl b:=by omega
   rw[this]
   right
   omega
  ·have:N=bl a:=by omega
   rw[this]
   left
   omega
 refine ⟨by split at hn<;>omega,key n.toNat (by split at hn<;>omega)⟩
def lgV (z:Nat):Int:=if z=0 then 0 else J z qN
theorem lg_zero {z0 z1 z2 z3:Int} {K:SV→Mem→Prop} (hz:Ws z0 z1 z2 z3 0) (hK:∀m,K (.int .i64 (.lit 0)) m):
  execF cxLg (uLg (fun i=>Ws i.a0 i.a1 i.a2 i.a3 0∧Ws i.b0 i.b1 i.b2 i.b3 qN) (PrT 30)) Tryz.f81 64 [.ptr 1 (.lit 0)] (memL [(1,⟨true,w4 z0 z1 z2 z3⟩)]) K:=by
 rw[vc_lg]
 intro x0 g0 x1 g1 x2 g2 x3 g3
 rw[g0,g1,g2,g3]
 refine ⟨⟨⟨z0,z1,z2,z3,4332616871279656263,10917124144477883021,13281191951274694749,3486998266802970665,1,0,0,0,0⟩,⟨hz,q_ws⟩,rfl,⟨rfl,rfl,rfl,rfl⟩,⟨rfl,rfl,rfl,rfl⟩,rfl,rfl,rfl,rfl⟩,?_⟩
 rintro i ⟨ha,hb⟩
 refine ⟨ha.wd,fun h=> ?_,fun h=>⟨fun h1=> ?_,fun h1=>hK _⟩⟩
 ·have:VA i=0:=ha.val
  rw[this]at h
  simp at h
 ·have e:i.b0=lm qN 0:=hb.a
  rw[e]at h1
  exact absurd h1 (by decide)
theorem lg_walk {z:Nat} {z0 z1 z2 z3:Int} {K:SV→Mem→Prop} (hz:El z0 z1 z2 z3 z) (h0:z≠0) (hK:∀l m,l=J z qN→K (.int .i64 (.sym l)) m):
  execF cxLg (uLg (LgQ z) (PrT 30)) Tryz.f81 64 [.ptr 1 (.lit 0)] (memL [(1,⟨true,w4 z0 z1 z2 z3⟩)]) K:=by
 rw[vc_lg]
 intro x0 g0 x1 g1 x2 g2 x3 g3
 rw[g0,g1,g2,g3]
 have hzl:=hz.lt
 refine ⟨⟨⟨z0,z1,z2,z3,4332616871279656263,10917124144477883021,13281191951274694749,3486998266802970665,1,0,0,0,0⟩,⟨z,qN,hz.ws,q_ws,.inr ⟨⟨by omega,Nat.le_refl _,q_odd,q_pri.cop (by omega) hzl⟩,.inl rfl,by rw[Int.one_mul]⟩⟩,rfl,⟨rfl,rfl,rfl,rfl⟩,⟨rfl,rfl,rfl,rfl⟩,rfl,rfl,rfl,rfl⟩,?_⟩
 rintro i ⟨a,b,ha,hb,hS⟩
 have hS:(a≤qN∧b≤qN∧b%2=1∧Nat.Coprime b a)∧(i.l=1∨i.l= -1)∧J z qN=i.l*J a b:=by
  rcases hS with h | h
  ·exact absurd h.1 h0
  ·exact h
 obtain ⟨⟨haq,hbq,hbo,hcop⟩,hl,hJ⟩:=hS
 have hva:VA i=a:=ha.val
 have hvb:VB i=b:=hb.val
 refine ⟨ha.wd,fun hne=> ?_,fun he=> ?_⟩
 ·have ha0:0<a:=by
   rw[hva]at hne
   simp only[Bool.not_eq_true',decide_eq_false_iff_not]at hne
   omega
  rw[hva,hvb]
  simp only[Int.toNat_natCast]
  refine ⟨ha.wd,fun n0 hn0=>⟨hb.wd,fun n1 hn1 n hn=> ?_⟩⟩
  obtain ⟨nb,hna,hnb,htop⟩:=max_bl haq hbq hn0 hn1 hn
  refine ⟨⟨ha.wd,nb,hna⟩,fun xa hxa=>⟨⟨hb.wd,nb,hnb⟩,fun xb hxb=> ?_⟩⟩
  have exa:xa.toNat=apx 32 n.toNat a:=by rw[hxa,Int.toNat_natCast]
  have exb:xb.toNat=apx 32 n.toNat b:=by rw[hxb,Int.toNat_natCast]
  refine ⟨⟨⟨0,⟨xa.toNat,xb.toNat,1,0,0,1⟩,i.l⟩,⟨Nat.zero_le _,rfl,by rw[psgns,Int.mul_one]⟩,⟨show 1=pk 1 0 by decide,show 4294967296=pk 0 1 by decide,rfl,by rw[hxa];rfl,by rw[hxb];rfl,rfl⟩,⟨rfl,rfl,rfl,rfl⟩,⟨rfl,rfl,rfl,rfl⟩,rfl,rfl,rfl,rfl⟩,?_⟩
  rintro ⟨j,s,l⟩ hT
  have hT':=hT
  obtain ⟨hj,hs,hlj⟩:=hT'
  dsimp only at hj hs hlj ⊢
  rw[exa,exb]at hs hlj
  refine ⟨fun h=> ?_,fun h=> ?_⟩
  ·simp only[decide_eq_true_eq]at h
   have hlt:=prun_lt (f:=1) (g:=0) (f':=0) (g':=1) (apx_lt (lo:=32) (by omega) hna) (apx_lt (lo:=32) (by omega) hnb) j
   rw[←hs]at hlt
   have hlp:l=1∨l= -1:=by
    rw[hlj]
    rcases hl with h | h<;>rcases psgns_pm ⟨apx 32 n.toNat a,apx 32 n.toNat b,1,0,0,1⟩ j with g | g<;>rw[h,g]<;>decide
   exact RoundP.of hT (by omega) (by decide) hlt.1 hlt.2 hlp ⟨⟨rfl,rfl,rfl,rfl⟩,⟨rfl,rfl,rfl,rfl⟩,rfl,rfl,rfl,rfl⟩
  ·simp only[decide_eq_false_iff_not]at h
   have hj30:j=30:=by omega
   subst hj30
   obtain ⟨hL,A,B,hO⟩:=outer (lo:=32) (m:=30) (n:=n.toNat) (a:=a) (b:=b) (by decide) (by decide) (by decide) htop hbo hcop
   rw[←hs]at hL hO
   exact AfterP.of ha hb haq hbq ha0 hl hJ hs hlj hL hO hna hnb
 ·have ha0:a=0:=by
   rw[hva]at he
   simp only[Bool.not_eq_false',decide_eq_true_eq]at he
   omega
  subst ha0
  obtain ⟨hb1,hk⟩:=K_zero hcop
  subst hb1
  have e0:i.b0=1:=by rw[hb.a];decide
  have e1:i.b1=0:=by rw[hb.b];decide
  have e2':i.b2=0:=by rw[hb.c];decide
  have e3:i.b3=0:=by rw[hb.d];decide
  have hl1:i.l=J z qN:=by
   rw[hJ,show J ((0:Nat):Int) 1=1 from rfl,Int.mul_one]
  rw[e0,e1,e2',e3]
  refine ⟨fun _ u hu v hv=>⟨fun _=>hK _ _ hl1,fun h=> ?_⟩,fun h=>absurd h (by decide)⟩
  have:v=0:=by rw[hv,hu];decide
  rw[this]at h
  exact absurd h (by decide)
def rLg:R0:=fun args l=>
 match args,l with
 | [.ptr 1 (.lit 0)],[(1,⟨true,x⟩)]=>r4 x fun a b c d=>some (some ((Wd a∧Wd b∧Wd c∧Wd d)∧V4 a b c d<21888242871839275222246405745257275088696311157297823662689037894645226208583),.int .i64 (.sym (lgV (V4 a b c d).toNat)))
 | _,_=>none
theorem lg_ok (args:List SV) (l:List (Nat×Reg)) (p:Ob) (v:SV) (h:rLg args l=some (p,v)) (hp:p.ok):∃U,execF cxLg U Tryz.f81 64 args (memL l) fun v' _=>∀β u,Den β v' u→Den β v u:=by
 unfold rLg at h
 split at h
 ·obtain ⟨a,b,c,d,rfl,q⟩:=r4_ex h
  simp only[Option.some.injEq,Prod.mk.injEq]at q
  obtain ⟨rfl,rfl⟩:=q
  obtain ⟨⟨ha,hb,hc,hd⟩,hlt⟩:(Wd a∧Wd b∧Wd c∧Wd d)∧V4 a b c d<21888242871839275222246405745257275088696311157297823662689037894645226208583:=hp
  have hz:=El.of_words ha hb hc hd hlt
  by_cases h0:(V4 a b c d).toNat=0
  ·have hw:=hz.ws
   rw[h0]at hw ⊢
   exact ⟨_,lg_zero hw fun m β u hu=>by simpa [Den,A.val,lgV]using hu⟩
  ·exact ⟨_,lg_walk hz h0 fun l m hl β u hu=>by
    have e:lgV (V4 a b c d).toNat=l:=by unfold lgV;rw[if_neg h0,hl]
    rw[e]
    exact hu⟩
 ·cases h
def cLgd:Rd Tryz.prog:=mkQ mixed 81 Tryz.func81 (by decide) (by kernel_rfl) [] [.ptr 4 true] rLg lg_ok
structure IvI where
 a0:Int
 a1:Int
 a2:Int
 a3:Int
 b0:Int
 b1:Int
 b2:Int
 b3:Int
 u0:Int
 u1:Int
 u2:Int
 u3:Int
 v0:Int
 v1:Int
 v2:Int
 v3:Int
 s0:Int
 s1:Int
 s2:Int
 s3:Int
 p0:Int
 p1:Int
 p2:Int
 p3:Int
 n:Int
def IvI.m (i:IvI):Nat:=2*((V4 i.a0 i.a1 i.a2 i.a3).toNat+(V4 i.b0 i.b1 i.b2 i.b3).toNat)+(i.n%2).toNat
def liIv (S:IvI→Prop):LI where
 ι:=IvI
 keep:= [0,1,5,6,7,15,16]
 keepR:= [1,9]
 F:=fun i=>⟨[(10,.int .i64 (.sym i.p0)),(11,.int .i64 (.sym i.p1)),(12,.int .i64 (.sym i.p2)),(13,.int .i64 (.sym i.p3)),(14,.int .u64 (.sym i.n))],
  [(545,⟨false,w4 i.a0 i.a1 i.a2 i.a3⟩),(569,⟨false,w4 i.b0 i.b1 i.b2 i.b3⟩),(593,⟨false,w4 i.u0 i.u1 i.u2 i.u3⟩),(665,⟨false,w4 i.v0 i.v1 i.v2 i.v3⟩),(673,⟨false,w4 i.s0 i.s1 i.s2 i.s3⟩)]⟩
 I:=fun _ i=>S i
 μ:=fun i=>i.m
structure PvI where
 j:Nat
 s:PS
def liPv (T:Int→Int→Nat→PS→Prop):LI where
 ι:=PvI
 keep:= [0,1,5,6,7,10,11,12,13,14,15,16]
 keepR:= [1,9,545,569,593,665,673]
 F:=fun i=>⟨[(8,.int .i64 (.sym (pk i.s.f0 i.s.g0))),(9,.int .i64 (.sym (pk i.s.f1 i.s.g1))),(18,.int .u64 (.sym (i.s.x:Nat))),(19,.int .u64 (.sym (i.s.y:Nat))),(47,i64n i.j)],[]⟩
 I:=fun st i=>T (st.int 18) (st.int 19) i.j i.s
 μ:=fun i=>32-i.j
structure WvI where
 v0:Int
 v1:Int
 v2:Int
 v3:Int
 n:Int
def liWv (W:WvI→Prop):LI where
 ι:=WvI
 keep:= [0,1,5,7,15]
 keepR:= [1,9,545,593]
 F:=fun i=>⟨[(14,.int .u64 (.sym i.n))],[(665,⟨false,w4 i.v0 i.v1 i.v2 i.v3⟩)]⟩
 I:=fun _ i=>W i
 μ:=fun i=>18-i.n.toNat
def uIv (S:IvI→Prop) (T:Int→Int→Nat→PS→Prop) (W:WvI→Prop):Nat→Lp:=fun n=>match n with | 0=> .inv (liIv S) | 2=> .inv (liPv T) | 4=> .inv (liWv W) | _=> .un 0
structure IeI where
 n:Nat
 z0:Int
 z1:Int
 z2:Int
 z3:Int
def liIe (S:IeI→Prop):LI where
 ι:=IeI
 keep:= [0,3,5]
 keepR:= [513,537]
 F:=fun i=>⟨[(6,.int .i64 (.sym ((i.n:Nat)-1)))],[(1,⟨false,w4 i.z0 i.z1 i.z2 i.z3⟩)]⟩
 I:=fun _ i=>S i
 μ:=fun i=>i.n
def uIe (S:IeI→Prop):Nat→Lp:=fun n=>match n with | 0=> .inv (liIe S) | _=> .un 0
def cxIe:Cx Tryz.prog:= { rds:= [],efs:= [kSet,kSqr,kMulA],eqs:= [] }
theorem vc_ie (S:IeI→Prop) (z0 z1 z2 z3 a0 a1 a2 a3:Int) (K:SV→Mem→Prop):(execF cxIe (uIe S) Tryz.f132 64 [.ptr 1 (.lit 0),.agg [.int .u64 (.sym a0),.int .u64 (.sym a1),.int .u64 (.sym a2),.int .u64 (.sym a3)]] (memL [(1,
 ⟨false,w4 z0 z1 z2 z3⟩)]) K)=((∃d:IeI,S d∧252=((IeI.n d:Nat):Int)-1∧(a0=a0∧a1=a1∧a2=a2∧a3=a3)∧a0=IeI.z0 d∧a1=IeI.z1 d∧a2=IeI.z2 d∧a3=IeI.z3 d)∧∀a:IeI,S a→(decide (((IeI.n a:Nat):
 Int)-1≥0)=true→∃l m:Nat,(Ws (IeI.z0 a) (IeI.z1 a) (IeI.z2 a) (IeI.z3 a) l∧El (IeI.z0 a) (IeI.z1 a) (IeI.z2 a) (IeI.z3 a) m)∧∀n:Nat,n=mmul l m→∀f g h i:Int,El f g h i n→∀e,e=IntKind.wrap IntKind.i64
 (Int.tdiv (((IeI.n a:Nat):Int)-1) (64:Int))→(0≤e∧e<4)∧(Int.toNat e*1+1≤4∧∀o:Int,o=List.getD [(4332616871279656261:Int),(10917124144477883021:Int),(13281191951274694749:Int),(3486998266802970665:
 Int)] (Int.toNat e*1) (0:Int)→∀j,j=Int.tmod (((IeI.n a:Nat):Int)-1) (64:Int)→(0≤j∧∀p,p=shrv .u64 o (Int.toNat j)→∀k,k=band .u64 p (1:Int)→((k==1)=true→∃q r:Nat,(Ws f g h i q∧El a0 a1 a2 a3
 r)∧∀s:Nat,s=mmul q r→∀t u v w:Int,El t u v w s→∀x,x=IntKind.wrap IntKind.i64 (((IeI.n a:Nat):Int)-1-1)→∃b:IeI,S b∧(x=((IeI.n b:Nat):Int)-1∧(a0=a0∧a1=a1∧a2=a2∧a3=a3)∧t=IeI.z0 b
 ∧u=IeI.z1 b∧v=IeI.z2 b∧w=IeI.z3 b)∧IeI.n b<IeI.n a)∧((k==1)=false→∀y,y=IntKind.wrap IntKind.i64 (((IeI.n a:Nat):Int)-1-1)→∃c:IeI,S c∧(y=((IeI.n c:Nat):Int)-1∧(a0=a0∧a1=a1∧a2=a2
 ∧a3=a3)∧f=IeI.z0 c∧g=IeI.z1 c∧h=IeI.z2 c∧i=IeI.z3 c)∧IeI.n c<IeI.n a))))∧(decide (((IeI.n a:Nat):Int)-1≥0)=false→K (.ptr 1 (.lit 0)) (memL [(1,⟨false,.cells [.int .u64 (.sym (IeI.z0 a)),.int .u64
 (.sym (IeI.z1 a)),.int .u64 (.sym (IeI.z2 a)),.int .u64 (.sym (IeI.z3 a))]⟩),(513,⟨false,.cells [.int .u64 (.sym a0),.int .u64 (.sym a1),.int .u64 (.sym a2),.int .u64 (.sym a3)]⟩),(537,⟨false,.cells [.int .u64 (.lit
 4332616871279656261),.int .u64 (.lit 10917124144477883021),.int .u64 (.lit 13281191951274694749),.int .u64 (.lit 3486998266802970665)]⟩)]))):=by kernel_rfl
theorem word_bit {E p:Nat}:E / 2 ^ (64*(p / 64))%2 ^ 64 / 2 ^ (p%64)%2=E / 2 ^ p%2:=by
 have e:2 ^ p=2 ^ (64*(p / 64))*2 ^ (p%64):=by rw[←Nat.pow_add];congr 1;omega
 rw[e,←Nat.div_div_eq_div_mul]
 generalize E / 2 ^ (64*(p / 64))=q
 have hs:p%64<64:=Nat.mod_lt _ (by decide)
 generalize p%64=s at hs
 have e2:(2:Nat) ^ 64=2 ^ s*(2*2 ^ (63-s)):=by rw[←Nat.pow_succ',←Nat.pow_add];congr 1;omega
 rw[e2,Nat.mod_mul_right_div_self,Nat.mod_mul_right_mod]
theorem bit_word {E p:Nat} (hp:p<256) {x9 x10 x11 x12 x13:Int} (h9:x9=IntKind.i64.wrap (Int.tdiv (p:Int) 64)) (h10:x10= [lm E 0,lm E 1,lm E 2,lm E 3].getD (x9.toNat*1) 0) (h11:x11=Int.tmod (p:Int) 64) (h12:x12=shrv .u64 x10 x11.toNat) (h13:x13=band .u64 x12 1):
  (0≤x9∧x9<4)∧0≤x11∧x13=((E / 2 ^ p%2:Nat):Int):=by
 rw[Int.tdiv_eq_ediv_of_nonneg (by omega),wrap64 (by omega) (by omega)]at h9
 rw[Int.tmod_eq_emod_of_nonneg (by omega)]at h11
 have e9:x9.toNat=p / 64:=by omega
 have e11:x11.toNat=p%64:=by omega
 rw[e9,Nat.mul_one,lm_getD E _ (by omega),lm_nat]at h10
 rw[e11,h10,shr64 (Int.natCast_nonneg _) (by omega)]at h12
 have hlt:E / 2 ^ (64*(p / 64))%2 ^ 64 / 2 ^ (p%64)<2 ^ 64:=Nat.lt_of_le_of_lt (Nat.div_le_self _ _) (Nat.mod_lt _ (Nat.pow_pos (by omega)))
 have e12:x12=((E / 2 ^ (64*(p / 64))%2 ^ 64 / 2 ^ (p%64):Nat):Int):=by rw[h12,Int.natCast_ediv,Int.natCast_pow];rfl
 refine ⟨by omega,by omega,?_⟩
 rw[h13,e12,band_nat _ hlt (n:=1) (by omega) (by decide),Nat.pow_one,word_bit]
def qm2:Nat:=21888242871839275222246405745257275088696311157297823662689037894645226208581
def IeQ (X:Nat) (i:IeI):Prop:=i.n≤253∧El i.z0 i.z1 i.z2 i.z3 (mont (X ^ (qm2 / 2 ^ i.n)))
theorem ie_walk {X:Nat} {z0 z1 z2 z3 a0 a1 a2 a3:Int} {K:SV→Mem→Prop} (hx:El a0 a1 a2 a3 (mont X)) (hK:∀y0 y1 y2 y3,El y0 y1 y2 y3 (mont (X ^ qm2))→∀g h,K (.ptr 1 (.lit 0)) (memL [(1,⟨false,w4 y0 y1 y2 y3⟩),(513,g),(537,h)])):
  execF cxIe (uIe (IeQ X)) Tryz.f132 64 [.ptr 1 (.lit 0),.agg [.int .u64 (.sym a0),.int .u64 (.sym a1),.int .u64 (.sym a2),.int .u64 (.sym a3)]] (memL [(1,⟨false,w4 z0 z1 z2 z3⟩)]) K:=by
 rw[vc_ie]
 have e253:qm2 / 2 ^ 253=1:=by decide +kernel
 refine ⟨⟨⟨253,a0,a1,a2,a3⟩,⟨Nat.le_refl _,?_⟩,show (252:Int)=((253:Nat):Int)-1 by decide,⟨rfl,rfl,rfl,rfl⟩,rfl,rfl,rfl,rfl⟩,?_⟩
 ·show El a0 a1 a2 a3 (mont (X ^ (qm2 / 2 ^ 253)))
  rw[e253,Nat.pow_one]
  exact hx
 rintro ⟨n,y0,y1,y2,y3⟩ ⟨hn,hz⟩
 dsimp only at hn hz ⊢
 refine ⟨fun h=> ?_,fun h=> ?_⟩
 ·simp only[decide_eq_true_eq]at h
  obtain ⟨p,rfl⟩:∃p,n=p+1:=⟨n-1,by omega⟩
  rw[show (((p+1:Nat):Int)-1)=(p:Int) by omega]
  refine ⟨_,_,⟨hz.ws,hz⟩,?_⟩
  intro r4 hr4 y05 y16 y27 y38 hy
  rw[mont_mul,←Nat.pow_add]at hr4
  have eL: [(4332616871279656261:Int),10917124144477883021,13281191951274694749,3486998266802970665]= [lm qm2 0,lm qm2 1,lm qm2 2,lm qm2 3]:=by decide +kernel
  intro x9 h9
  have bw:=fun x10 x11 x12 x13=>bit_word (E:=qm2) (p:=p) (by omega) (x10:=x10) (x11:=x11) (x12:=x12) (x13:=x13) h9
  have b0:=bw _ _ _ _ rfl rfl rfl rfl
  refine ⟨b0.1,by omega,?_⟩
  intro x10 h10 x11 h11
  rw[eL]at h10
  refine ⟨(bw x10 x11 _ _ h10 h11 rfl rfl).2.1,?_⟩
  intro x12 h12 x13 h13
  obtain ⟨_,_,e13⟩:=bw x10 x11 x12 x13 h10 h11 h12 h13
  have eh:qm2 / 2 ^ p=2*(qm2 / 2 ^ (p+1))+qm2 / 2 ^ p%2:=by
   rw[Nat.pow_succ,←Nat.div_div_eq_div_mul]
   omega
  refine ⟨fun hb=>⟨_,_,⟨hy.ws,hx⟩,?_⟩,fun hb=> ?_⟩
  ·have hb:x13=1:=by simpa using hb
   intro r16 hr16 w0 w1 w2 w3 hw x21 h21
   rw[wrap64 (by omega) (by omega)]at h21
   rw[hr4,mont_mul]at hr16
   refine ⟨⟨p,w0,w1,w2,w3⟩,⟨by simp only;omega,?_⟩,⟨by simp only;omega,⟨rfl,rfl,rfl,rfl⟩,rfl,rfl,rfl,rfl⟩,by simp only;omega⟩
   show El w0 w1 w2 w3 (mont (X ^ (qm2 / 2 ^ p)))
   rw[hr16,←Nat.pow_succ]at hw
   rw[eh,show qm2 / 2 ^ p%2=1 by omega,show 2*(qm2 / 2 ^ (p+1))+1=qm2 / 2 ^ (p+1)+qm2 / 2 ^ (p+1)+1 by omega]
   exact hw
  ·have hb:¬x13=1:=by simpa using hb
   intro x23 h23
   rw[wrap64 (by omega) (by omega)]at h23
   refine ⟨⟨p,y05,y16,y27,y38⟩,⟨by simp only;omega,?_⟩,⟨by simp only;omega,⟨rfl,rfl,rfl,rfl⟩,rfl,rfl,rfl,rfl⟩,by simp only;omega⟩
   show El y05 y16 y27 y38 (mont (X ^ (qm2 / 2 ^ p)))
   rw[hr4]at hy
   rw[eh,show qm2 / 2 ^ p%2=0 by omega,show 2*(qm2 / 2 ^ (p+1))+0=qm2 / 2 ^ (p+1)+qm2 / 2 ^ (p+1) by omega]
   exact hy
 ·simp only[decide_eq_false_iff_not]at h
  have hn0:n=0:=by omega
  subst hn0
  rw[Nat.pow_zero,Nat.div_one]at hz
  exact hK _ _ _ _ hz _ _
def IeR (X:Nat) (y0 y1 y2 y3:Int):Prop:=El y0 y1 y2 y3 (mont (X ^ qm2))
def gIe:G0:=fun args l K=>
 match args,l with
 | [.ptr 1 (.lit 0),.agg [.int .u64 (.sym a0),.int .u64 (.sym a1),.int .u64 (.sym a2),.int .u64 (.sym a3)]],[(1,⟨false,z⟩)]=>c4 z fun _ _ _ _=>∃X,El a0 a1 a2 a3 (mont X)∧∀y0 y1 y2 y3,IeR X y0 y1 y2 y3→K (.ptr 1 (.lit 0)) (memL [(1,⟨false,w4 y0 y1 y2 y3⟩)])
 | _,_=>False
theorem ie_good:Good gIe:=by
 constructor
 ·intro args l K K' hk h
  unfold gIe at h ⊢
  split at h
  ·exact c4_mono (fun _ _ _ _ h=>h.elim fun X h=>⟨X,h.1,fun y0 y1 y2 y3 hy=>hk _ _ (h.2 y0 y1 y2 y3 hy)⟩) h
  ·exact h.elim
 ·intro args l K h
  unfold gIe at h
  split at h
  ·obtain ⟨_,_,_,_,_,h⟩:=c4_ex h
   obtain ⟨X,_,h⟩:=h
   exact ⟨_,_,h _ _ _ _ (show IeR X _ _ _ _ from El.of (mont_lt _))⟩
  ·exact h.elim
theorem ie_ok (args:List SV) (l:List (Nat×Reg)) (K:SV→Mem→Prop) (hup:KUp K) (h:gIe args l K):∃U,execF cxIe U Tryz.f132 64 args (memL l) K:=by
 unfold gIe at h
 split at h
 ·rename_i a0 a1 a2 a3 zz
  obtain ⟨z0,z1,z2,z3,rfl,q0⟩:=c4_ex h
  obtain ⟨X,hx,hK⟩:=q0
  exact ⟨_,ie_walk hx fun y0 y1 y2 y3 hy g h=>hup.le (memL_sub [1,513,537] rfl (by decide) (by
    intro x hx
    simp only[List.mem_cons,List.not_mem_nil,or_false]at hx ⊢
    simp[hx])) (hK y0 y1 y2 y3 hy)⟩
 ·exact h.elim
def kIe:Ef Tryz.prog:=mkE mixed 132 Tryz.func132 (by decide) (by kernel_rfl) [] [.ptr 4 false,.num] gIe ie_good ie_ok
end Go.Sx
namespace Go.Sx
open Go Go.Proofs
def L4 (v:Nat) (P:Int→Int→Int→Int→Prop):Prop:=∀x0,x0=lm v 0→∀x1,x1=lm v 1→∀x2,x2=lm v 2→∀x3,x3=lm v 3→P x0 x1 x2 x3
def B4 (a b c d:Int) (P:Int→Int→Int→Int→Prop):Prop:=∀x0,x0=a→∀x1,x1=b→∀x2,x2=c→∀x3,x3=d→P x0 x1 x2 x3
def B1 (a:Int) (P:Int→Prop):Prop:=∀x,x=a→P x
def W4 (a b c d:Int):Prop:=Wd a∧Wd b∧Wd c∧Wd d
def Z4 (a b c d:Int):Prop:=a=0∧b=0∧c=0∧d=0
def N4 (a b c d:Int):Nat:=(V4 a b c d).toNat
def A4 (a b c d e f g h:Int):Nat:=((V4 a b c d+V4 e f g h)%21888242871839275222246405745257275088696311157297823662689037894645226208583).toNat
def qI:Int:=21888242871839275222246405745257275088696311157297823662689037894645226208583
def U (x:Int):SV:= .int .u64 (.sym x)
theorem L4_eq (v:Nat) (P:Int→Int→Int→Int→Prop):L4 v P=P (lm v 0) (lm v 1) (lm v 2) (lm v 3):=by unfold L4;simp only[forall_eq]
theorem B4_eq (a b c d:Int) (P:Int→Int→Int→Int→Prop):B4 a b c d P=P a b c d:=by unfold B4;simp only[forall_eq]
theorem B1_eq (a:Int) (P:Int→Prop):B1 a P=P a:=by unfold B1;simp only[forall_eq]
end Go.Sx
namespace Go.Sx
open Go Go.Proofs Go.Num
set_option maxRecDepth 100000
def cxIv:Cx Tryz.prog:= { rds:= [cBl,cIz,cIo,cApx,cUd,cSub],efs:= [kLc,kNl,kLn,kMulA,kSet,kIe],eqs:= [] }
def Q4 (a b c d:Int):Prop:=a=a∧b=b∧c=c∧d=d
def E4 (a b c d a' b' c' d':Int):Prop:=a=a'∧b=b'∧c=c'∧d=d'
def IvLeaf (S:IvI→Prop) (i0:IvI) (R:Prop→Prop) (p0 p1 p2 p3 n w0 w1 w2 w3 x0 x1 x2 x3 u0 u1 u2 u3 v0 v1 v2 v3 s0 s1 s2 s3:Int):Prop:=
 ∃i:IvI,S i∧(((p0=i.p0∧p1=i.p1∧p2=i.p2∧p3=i.p3∧n=i.n)∧R (E4 w0 w1 w2 w3 i.a0 i.a1 i.a2 i.a3∧E4 x0 x1 x2 x3 i.b0 i.b1 i.b2 i.b3∧E4 u0 u1 u2 u3 i.u0 i.u1 i.u2 i.u3∧E4 v0 v1 v2 v3 i.v0 i.v1 i.v2 i.v3∧E4 s0 s1 s2 s3 i.s0 i.s1 i.s2 i.s3))∧i.m<i0.m)
def IvTail (S:IvI→Prop) (i:IvI) (R:Prop→Prop) (y0 y1 y2 y3 c0 g0 f1 c1 w0 w1 w2 w3 x0 x1 x2 x3:Int):Prop:=
 ∀t,t=band .u64 i.n 1→
  ((t==1)=true→∀h,h=IntKind.i64.wrap (c0*i.p0)→∀h',h'=IntKind.i64.wrap (g0*i.p1)→∀a,a=IntKind.i64.wrap (h+h')→∀h,h=IntKind.i64.wrap (c0*i.p2)→∀h',h'=IntKind.i64.wrap (g0*i.p3)→∀b,b=IntKind.i64.wrap (h+h')→
   ∀h,h=IntKind.i64.wrap (f1*i.p0)→∀h',h'=IntKind.i64.wrap (c1*i.p1)→∀c,c=IntKind.i64.wrap (h+h')→∀h,h=IntKind.i64.wrap (f1*i.p2)→∀h',h'=IntKind.i64.wrap (c1*i.p3)→∀d,d=IntKind.i64.wrap (h+h')→
   ∀q0,q0=i.u0→∀q1,q1=i.u1→∀q2,q2=i.u2→∀q3,q3=i.u3→((W4 i.u0 i.u1 i.u2 i.u3∧W4 i.v0 i.v1 i.v2 i.v3)∧I64 a∧I64 b)∧∀u0 u1 u2 u3,W4 u0 u1 u2 u3→((W4 q0 q1 q2 q3∧W4 i.v0 i.v1 i.v2 i.v3)∧I64 c∧I64 d)∧∀v0 v1 v2 v3,W4 v0 v1 v2 v3→
   ∀n,n=IntKind.u64.wrap (i.n+1)→IvLeaf S i R i.p0 i.p1 i.p2 i.p3 n w0 w1 w2 w3 x0 x1 x2 x3 u0 u1 u2 u3 v0 v1 v2 v3 q0 q1 q2 q3)∧
  ((t==1)=false→∀n,n=IntKind.u64.wrap (i.n+1)→IvLeaf S i R c0 f1 g0 c1 n w0 w1 w2 w3 x0 x1 x2 x3 i.u0 i.u1 i.u2 i.u3 i.v0 i.v1 i.v2 i.v3 y0 y1 y2 y3)
def CombF (x0 x1 x2 x3 b0 b1 b2 b3:Int) (p:Int) (K:Int→Int→Nat→Prop):Prop:=
 ∀f,f=udF p→∀g,g=udG p→((W4 x0 x1 x2 x3∧W4 b0 b1 b2 b3)∧I64 f∧I64 g)∧∀r,r=m5 (V4 x0 x1 x2 x3*f+V4 b0 b1 b2 b3*g)→K f g r
def SgSh (r:Nat) (f g:Int) (K:Int→Int→Int→Int→Int→Int→Prop):Prop:=
 ∀t,t=band .u64 (lm r 4) 9223372036854775808→((t !=0)=true→∀f',f'=IntKind.i64.wrap (0-f)→∀g',g'=IntKind.i64.wrap (0-g)→WdR r∧∀r',r'=NegW r→ShP r' 31 fun w0 w1 w2 w3=>K f' g' w0 w1 w2 w3)∧
  ((t !=0)=false→ShP r 31 fun w0 w1 w2 w3=>K f g w0 w1 w2 w3)
def IvAfter (S:IvI→Prop) (i:IvI) (R:Prop→Prop) (p0 p1:Int):Prop:=
 ∀y0,y0=i.a0→∀y1,y1=i.a1→∀y2,y2=i.a2→∀y3,y3=i.a3→CombF y0 y1 y2 y3 i.b0 i.b1 i.b2 i.b3 p0 fun f g r=>SgSh r f g fun c0 g0 w0 w1 w2 w3=>
  CombF y0 y1 y2 y3 i.b0 i.b1 i.b2 i.b3 p1 fun f g r=>SgSh r f g fun f1 c1 x0 x1 x2 x3=>IvTail S i R y0 y1 y2 y3 c0 g0 f1 c1 w0 w1 w2 w3 x0 x1 x2 x3
def PvLeaf (T:Nat→PS→Prop) (i0:IvI) (j:Nat) (R:Prop) (c0 c1 x y jn:Int):Prop:=
 ∃i:PvI,T i.j i.s∧(((i0.p0=i0.p0∧i0.p1=i0.p1∧i0.p2=i0.p2∧i0.p3=i0.p3∧i0.n=i0.n∧c0=pk i.s.f0 i.s.g0∧c1=pk i.s.f1 i.s.g1∧x=(i.s.x:Nat)∧y=(i.s.y:Nat)∧jn=(i.j:Nat))∧R)∧32-i.j<32-j)
def PvEnd (T:Nat→PS→Prop) (i0:IvI) (j:Nat) (R:Prop) (c0 cc x y:Int):Prop:=
 ∀c1,c1=IntKind.i64.wrap (cc*2)→∀jn,jn=IntKind.i64.wrap ((j:Int)+1)→PvLeaf T i0 j R c0 c1 x y jn
def PvRound (T:Nat→PS→Prop) (i0:IvI) (j:Nat) (R:Prop) (x y p0 p1:Int):Prop:=
 ∀e,e=band .u64 x 1→((e==0)=true→∀h,h=IntKind.u64.wrap (Int.tdiv x 2)→PvEnd T i0 j R p0 p1 h y)∧
  ((e==0)=false→(Wd x∧Wd y∧(0:Int)≤0∧(0:Int)≤1)∧∀d,d=difLo x y 0→∀b,b=difHi x y 0→
   ((b==1)=true→∀a,a=IntKind.u64.wrap (y-x)→∀h,h=IntKind.u64.wrap (Int.tdiv a 2)→∀c,c=IntKind.i64.wrap (p1-p0)→PvEnd T i0 j R c p0 h x)∧
   ((b==1)=false→∀h,h=IntKind.u64.wrap (Int.tdiv d 2)→∀c,c=IntKind.i64.wrap (p0-p1)→PvEnd T i0 j R c p1 h y))
def IvBody (S:IvI→Prop) (T:Int→Int→Nat→PS→Prop) (i:IvI) (R:Prop→Prop):Prop:=
 W4 i.a0 i.a1 i.a2 i.a3∧∀n0,n0=((bl (V4 i.a0 i.a1 i.a2 i.a3).toNat:Nat):Int)→W4 i.b0 i.b1 i.b2 i.b3∧∀n1,n1=((bl (V4 i.b0 i.b1 i.b2 i.b3).toNat:Nat):Int)→∀n,n=(if n1>n0 then n1 else n0)→
  (W4 i.a0 i.a1 i.a2 i.a3∧(0≤n∧n≤256)∧(V4 i.a0 i.a1 i.a2 i.a3).toNat<2 ^ n.toNat)∧∀xa,xa=((apx 31 n.toNat (V4 i.a0 i.a1 i.a2 i.a3).toNat:Nat):Int)→
  (W4 i.b0 i.b1 i.b2 i.b3∧(0≤n∧n≤256)∧(V4 i.b0 i.b1 i.b2 i.b3).toNat<2 ^ n.toNat)∧∀xb,xb=((apx 31 n.toNat (V4 i.b0 i.b1 i.b2 i.b3).toNat:Nat):Int)→
  (∃k:PvI,T xa xb k.j k.s∧(i.p0=i.p0∧i.p1=i.p1∧i.p2=i.p2∧i.p3=i.p3∧i.n=i.n∧1=pk k.s.f0 k.s.g0∧4294967296=pk k.s.f1 k.s.g1∧xa=(k.s.x:Nat)∧xb=(k.s.y:Nat)∧0=((k.j:Nat):Int))∧
   R (Q4 i.a0 i.a1 i.a2 i.a3∧Q4 i.b0 i.b1 i.b2 i.b3∧Q4 i.u0 i.u1 i.u2 i.u3∧Q4 i.v0 i.v1 i.v2 i.v3∧Q4 i.s0 i.s1 i.s2 i.s3))∧
  ∀k:PvI,T xa xb k.j k.s→
   (decide (((k.j:Nat):Int)<31)=true→PvRound (T xa xb) i k.j (R (Q4 i.a0 i.a1 i.a2 i.a3∧Q4 i.b0 i.b1 i.b2 i.b3∧Q4 i.u0 i.u1 i.u2 i.u3∧Q4 i.v0 i.v1 i.v2 i.v3∧Q4 i.s0 i.s1 i.s2 i.s3)) (k.s.x:Nat) (k.s.y:Nat) (pk k.s.f0 k.s.g0) (pk k.s.f1 k.s.g1))∧
   (decide (((k.j:Nat):Int)<31)=false→IvAfter S i R (pk k.s.f0 k.s.g0) (pk k.s.f1 k.s.g1))
def pr4:Reg:=⟨false,.cells [.int .u64 (.lit 4611686018427387904),.int .u64 (.lit 0),.int .u64 (.lit 0),.int .u64 (.lit 0)]⟩
def pr8:Reg:=⟨false,.cells [.int .u64 (.lit 11111708840330028223),.int .u64 (.lit 3098618286181893933),.int .u64 (.lit 756602578711705709),.int .u64 (.lit 1041752015607019851)]⟩
def IvExit (W:WvI→Prop) (i:IvI) (R:Prop→Prop) (a0 a1 a2 a3:Int) (K:SV→Mem→Prop) (M:Reg→Reg→Reg→Reg→Reg→Mem):Prop:=
 (∃k:WvI,W k∧i.n=k.n∧R (Q4 i.u0 i.u1 i.u2 i.u3∧E4 i.v0 i.v1 i.v2 i.v3 k.v0 k.v1 k.v2 k.v3))∧
 ∀k:WvI,W k→
  (decide (k.n<18)=true→∃x y,(Ws k.v0 k.v1 k.v2 k.v3 x∧El 4611686018427387904 0 0 0 y)∧∀r,r=mmul x y→∀y0 y1 y2 y3,El y0 y1 y2 y3 r→∀n,n=IntKind.u64.wrap (k.n+2)→
   ∃k':WvI,W k'∧((n=k'.n∧R (Q4 i.u0 i.u1 i.u2 i.u3∧E4 y0 y1 y2 y3 k'.v0 k'.v1 k'.v2 k'.v3))∧18-k'.n.toNat<18-k.n.toNat))∧
  (decide (k.n<18)=false→∃x y,(Ws k.v0 k.v1 k.v2 k.v3 x∧El 11111708840330028223 3098618286181893933 756602578711705709 1041752015607019851 y)∧∀r,r=mmul x y→∀y0 y1 y2 y3,El y0 y1 y2 y3 r→
   ∃x y,(Ws a0 a1 a2 a3 x∧El y0 y1 y2 y3 y)∧∀r,r=mmul x y→∀v0 v1 v2 v3,El v0 v1 v2 v3 r→W4 v0 v1 v2 v3∧
    ((!decide (V4 v0 v1 v2 v3=one4))=true→W4 a0 a1 a2 a3∧
     ((!decide (V4 a0 a1 a2 a3=0))=true→∀x0,x0=a0→∀x1,x1=a1→∀x2,x2=a2→∀x3,x3=a3→∃X,El x0 x1 x2 x3 (mont X)∧∀w0 w1 w2 w3,IeR X w0 w1 w2 w3→
      K (.ptr 1 (.lit 0)) (M ⟨false,w4 w0 w1 w2 w3⟩ pr4 ⟨false,w4 a0 a1 a2 a3⟩ ⟨false,w4 v0 v1 v2 v3⟩ pr8))∧
     ((!decide (V4 a0 a1 a2 a3=0))=false→K (.ptr 1 (.lit 0)) (M ⟨false,w4 y0 y1 y2 y3⟩ pr4 ⟨false,w4 a0 a1 a2 a3⟩ ⟨false,w4 v0 v1 v2 v3⟩ pr8)))∧
    ((!decide (V4 v0 v1 v2 v3=one4))=false→K (.ptr 1 (.lit 0)) (M ⟨false,w4 y0 y1 y2 y3⟩ pr4 ⟨false,w4 a0 a1 a2 a3⟩ ⟨false,w4 v0 v1 v2 v3⟩ pr8)))
def IvAll (S:IvI→Prop) (T:Int→Int→Nat→PS→Prop) (W:WvI→Prop) (R:Prop→Prop) (a0 a1 a2 a3:Int) (K:SV→Mem→Prop) (M:Reg→Reg→Reg→Reg→Reg→Mem):Prop:=
 (∀x0,x0=a0→∀x1,x1=a1→∀x2,x2=a2→∀x3,x3=a3→
  (∃i:IvI,S i∧(0=i.p0∧0=i.p1∧0=i.p2∧0=i.p3∧0=i.n)∧R (E4 x0 x1 x2 x3 i.a0 i.a1 i.a2 i.a3∧E4 4332616871279656263 10917124144477883021 13281191951274694749 3486998266802970665 i.b0 i.b1 i.b2 i.b3∧
   E4 1 0 0 0 i.u0 i.u1 i.u2 i.u3∧E4 0 0 0 0 i.v0 i.v1 i.v2 i.v3∧E4 0 0 0 0 i.s0 i.s1 i.s2 i.s3))∧
  ∀i:IvI,S i→∀e,e=band .u64 i.n 1→
   ((e==1)=true→IvBody S T i R)∧
   ((e==1)=false→W4 i.a0 i.a1 i.a2 i.a3∧
    ((!decide (V4 i.a0 i.a1 i.a2 i.a3=0))=true→IvBody S T i R)∧
    ((!decide (V4 i.a0 i.a1 i.a2 i.a3=0))=false→IvExit W i R a0 a1 a2 a3 K M)))
def mIv:Reg→Reg→Reg→Reg→Reg→Mem:=fun g g1 g2 g3 g4=>memL [(1,g),(545,g1),(593,g2),(665,g3),(809,g4)]
def mIx (x:Reg):Reg→Reg→Reg→Reg→Reg→Mem:=fun g g1 g2 g3 g4=>memL [(1,g),(9,x),(545,g1),(593,g2),(665,g3),(809,g4)]
theorem vc_iv (S:IvI→Prop) (T:Int→Int→Nat→PS→Prop) (W:WvI→Prop) (a0 a1 a2 a3:Int) (K:SV→Mem→Prop):(execF cxIv (uIv S T W) Tryz.f74 64 [.ptr 1 (.lit 0),.ptr 1 (.lit 0)] (memL [(1,⟨false,w4 a0 a1 a2 a3⟩)]) K)=IvAll S T W (fun X=>Q4 a0 a1 a2 a3∧X) a0 a1 a2 a3 K mIv:=by kernel_rfl
theorem vc_ivx (S:IvI→Prop) (T:Int→Int→Nat→PS→Prop) (W:WvI→Prop) (z0 z1 z2 z3 a0 a1 a2 a3:Int) (K:SV→Mem→Prop):(execF cxIv (uIv S T W) Tryz.f74 64 [.ptr 1 (.lit 0),.ptr 9 (.lit 0)] (memL [(1,⟨false,w4 z0 z1 z2 z3⟩),(9,⟨true,w4 a0 a1 a2 a3⟩)]) K)=IvAll S T W (fun X=>Q4 z0 z1 z2 z3∧Q4 a0 a1 a2 a3∧X) a0 a1 a2 a3 K (mIx ⟨true,w4 a0 a1 a2 a3⟩):=by kernel_rfl
def PvT (m:Nat) (x0 y0:Int) (j:Nat) (s:PS):Prop:=j≤m∧s=prun j ⟨x0.toNat,y0.toNat,1,0,0,1⟩
theorem PvEnd.of {m j:Nat} {xa xb:Int} {s:PS} {i0:IvI} {R:Prop} {c0 cc x y:Int} (hT:PvT m xa xb j s) (hj:j<m) (hm:m≤31) (h0:c0=pk (pstep s).f0 (pstep s).g0) (h1:IntKind.i64.wrap (cc*2)=pk (pstep s).f1 (pstep s).g1)
  (h3:x=((pstep s).x:Nat)) (h4:y=((pstep s).y:Nat)) (hR:R):PvEnd (PvT m xa xb) i0 j R c0 cc x y:=by
 intro c1 hc jn hjn
 rw[wrap64 (by omega) (by omega)]at hjn
 obtain ⟨_,hs⟩:=hT
 refine ⟨⟨j+1,pstep s⟩,⟨hj,?_⟩,⟨⟨rfl,rfl,rfl,rfl,rfl,h0,by rw[hc,h1],h3,h4,by simp only;omega⟩,hR⟩,by simp only;omega⟩
 simp only
 rw[prun,←hs]
theorem PvRound.of {m j:Nat} {xa xb:Int} {s:PS} {i0:IvI} {R:Prop} (hT:PvT m xa xb j s) (hj:j<m) (hm:m≤31) (hx:s.x<2 ^ 64) (hy:s.y<2 ^ 64) (hR:R):
  PvRound (PvT m xa xb) i0 j R (s.x:Nat) (s.y:Nat) (pk s.f0 s.g0) (pk s.f1 s.g1):=by
 intro e he
 rw[band_nat s.x hx (n:=1) (by omega) (by decide)]at he
 simp only[beq_iff_eq,beq_eq_false_iff_ne,ne_eq]
 refine ⟨fun h0 h hh=> ?_,fun h0=>⟨⟨wd_nat hx,wd_nat hy,Int.le_refl _,by decide⟩,fun d hd b hb=>⟨fun h1=> ?_,fun h1=> ?_⟩⟩⟩
 ·have hx2:s.x%2=0:=by omega
  have ep:pstep s=⟨s.x / 2,s.y,s.f0,s.g0,2*s.f1,2*s.g1⟩:=by unfold pstep;rw[if_pos hx2]
  exact PvEnd.of hT hj hm (by rw[ep]) (by rw[ep,pk_dbl]) (by rw[ep];exact half_nat hx hh) (by rw[ep]) hR
 ·have hx2:s.x%2=1:=by omega
  have hlt:s.x<s.y:=by
   unfold difHi at hb
   split at hb<;>omega
  have ep:pstep s=⟨(s.y-s.x) / 2,s.x,s.f1-s.f0,s.g1-s.g0,2*s.f0,2*s.g0⟩:=by unfold pstep;rw[if_neg (by omega),if_pos hlt]
  intro a ha h hh c hc
  have ea:a=((s.y-s.x:Nat):Int):=by rw[ha,wu64];omega
  rw[ea]at hh
  exact PvEnd.of hT hj hm (by rw[ep,hc,pk_dif]) (by rw[ep,pk_dbl]) (by rw[ep];exact half_nat (by omega) hh) (by rw[ep]) hR
 ·have hx2:s.x%2=1:=by omega
  have hge:¬s.x<s.y:=by
   unfold difHi at hb
   split at hb<;>omega
  have ep:pstep s=⟨(s.x-s.y) / 2,s.y,s.f0-s.f1,s.g0-s.g1,2*s.f1,2*s.g1⟩:=by unfold pstep;rw[if_neg (by omega),if_neg hge]
  intro h hh c hc
  have ed:d=((s.x-s.y:Nat):Int):=by rw[hd];unfold difLo;omega
  rw[ed]at hh
  exact PvEnd.of hT hj hm (by rw[ep,hc,pk_dif]) (by rw[ep,pk_dbl]) (by rw[ep];exact half_nat (by omega) hh) (by rw[ep]) hR
theorem wrap_i64r (y:Int):I64 (IntKind.i64.wrap y):=by
 rw[wrap64_eq]
 unfold I64
 split<;>omega
theorem wd_wrap (y:Int):Wd (IntKind.u64.wrap y):=by rw[wu64];unfold Wd;omega
def IvQ (i:IvI):Prop:=
 ∃a b,Ws i.a0 i.a1 i.a2 i.a3 a∧Ws i.b0 i.b1 i.b2 i.b3 b∧(a≤qN∧b≤qN∧b%2=1∧Nat.Coprime b a)∧W4 i.u0 i.u1 i.u2 i.u3∧W4 i.v0 i.v1 i.v2 i.v3∧Wd i.n
theorem CombF.of {x0 x1 x2 x3 b0 b1 b2 b3 f g:Int} {a b:Nat} {K:Int→Int→Nat→Prop} (hx:Ws x0 x1 x2 x3 a) (hb:Ws b0 b1 b2 b3 b) (hf: -2147483648<f∧f≤2147483648) (hg: -2147483648<g∧g≤2147483648) (h:∀r,r=m5 (f*a+g*b)→K f g r):CombF x0 x1 x2 x3 b0 b1 b2 b3 (pk f g) K:=by
 obtain ⟨ef,eg⟩:=ud_of hf.1 hf.2 hg.1 hg.2
 intro f' hf' g' hg'
 have e1:f'=f:=hf'.trans ef
 have e2:g'=g:=hg'.trans eg
 rw[e1,e2]
 refine ⟨⟨⟨hx.wd,hb.wd⟩,by unfold I64;omega,by unfold I64;omega⟩,fun r hr=>h r ?_⟩
 rw[hr,hx.val,hb.val,Int.mul_comm f,Int.mul_comm g]
theorem SgSh.of {r:Nat} {f g A z:Int} {K:Int→Int→Int→Int→Int→Int→Prop} (hz:((2 ^ 31:Nat):Int)*A=z) (hA:A.natAbs≤qN) (hr:r=m5 z) (h:∀f' g',K f' g' (lm A.natAbs 0) (lm A.natAbs 1) (lm A.natAbs 2) (lm A.natAbs 3)):SgSh r f g K:=by
 intro t ht
 obtain ⟨q1,q2,q3,q4⟩:=sign_of hz (by decide) (by unfold qN at hA;omega) hr ht
 simp only[bne_iff_ne,bne_eq_false_iff_eq,ne_eq]
 refine ⟨fun h' f' _ g' _=>⟨wdr r,fun r' hr'=>ShP.of (by decide) (by decide) ?_⟩,fun h'=>ShP.of (by decide) (by decide) ?_⟩
 ·rw[hr',q2 (q1.1 h')]
  exact h _ _
 ·have hAn:¬A<0:=fun c=>(q1.2 c) h'
  rw[q3 (by omega)]
  exact h _ _
theorem IvAfter.of {a b n:Nat} {i:IvI} {R:Prop→Prop} {s:PS} {A B:Int} (hR:∀X:Prop,X→R X) (ha:Ws i.a0 i.a1 i.a2 i.a3 a) (hb:Ws i.b0 i.b1 i.b2 i.b3 b) (haq:a≤qN) (hbq:b≤qN) (hu:W4 i.u0 i.u1 i.u2 i.u3) (hv:W4 i.v0 i.v1 i.v2 i.v3) (hn:Wd i.n)
  (hmeas:A.natAbs+B.natAbs<a+b∨(A.natAbs+B.natAbs≤a+b∧i.n%2=1)) (hL:Lin (2 ^ 31) (apx 31 n a) (apx 31 n b) s) (hO:Num.Out 31 31 n a b s A B):
  IvAfter IvQ i R (pk s.f0 s.g0) (pk s.f1 s.g1):=by
 obtain ⟨⟨f0b,g0b⟩,f1b,g1b⟩:=fac_bd (f:=0) (g:=0) hL (by decide)
 obtain ⟨hAle,hBle⟩:=hO.le qN haq hbq
 have wa:Ws (lm A.natAbs 0) (lm A.natAbs 1) (lm A.natAbs 2) (lm A.natAbs 3) A.natAbs:=ws_lm (by unfold qN at hAle;omega)
 have wb:Ws (lm B.natAbs 0) (lm B.natAbs 1) (lm B.natAbs 2) (lm B.natAbs 3) B.natAbs:=ws_lm (by unfold qN at hBle;omega)
 have leaf:∀p0 p1 p2 p3 n' u0 u1 u2 u3 v0 v1 v2 v3 s0 s1 s2 s3:Int,n'=IntKind.u64.wrap (i.n+1)→W4 u0 u1 u2 u3→W4 v0 v1 v2 v3→
   IvLeaf IvQ i R p0 p1 p2 p3 n' (lm A.natAbs 0) (lm A.natAbs 1) (lm A.natAbs 2) (lm A.natAbs 3) (lm B.natAbs 0) (lm B.natAbs 1) (lm B.natAbs 2) (lm B.natAbs 3) u0 u1 u2 u3 v0 v1 v2 v3 s0 s1 s2 s3:=by
  intro p0 p1 p2 p3 n' u0 u1 u2 u3 v0 v1 v2 v3 s0 s1 s2 s3 hn' hu' hv'
  refine ⟨⟨lm A.natAbs 0,lm A.natAbs 1,lm A.natAbs 2,lm A.natAbs 3,lm B.natAbs 0,lm B.natAbs 1,lm B.natAbs 2,lm B.natAbs 3,u0,u1,u2,u3,v0,v1,v2,v3,s0,s1,s2,s3,p0,p1,p2,p3,n'⟩,
   ⟨A.natAbs,B.natAbs,wa,wb,⟨hAle,hBle,hO.odd,hO.cop⟩,hu',hv',by rw[hn'];exact wd_wrap _⟩,
   ⟨⟨rfl,rfl,rfl,rfl,rfl⟩,hR _ ⟨⟨rfl,rfl,rfl,rfl⟩,⟨rfl,rfl,rfl,rfl⟩,⟨rfl,rfl,rfl,rfl⟩,⟨rfl,rfl,rfl,rfl⟩,rfl,rfl,rfl,rfl⟩⟩,?_⟩
  unfold IvI.m
  simp only
  rw[wa.val,wb.val,ha.val,hb.val,hn',wu64]
  simp only[Int.toNat_natCast]
  unfold Wd at hn
  omega
 rintro _ rfl _ rfl _ rfl _ rfl
 refine CombF.of ha hb f0b g0b fun r hr=>SgSh.of hO.ra hAle hr fun c0 g0=> ?_
 refine CombF.of ha hb f1b g1b fun r hr=>SgSh.of hO.rb hBle hr fun f1 c1=> ?_
 intro t ht
 refine ⟨fun _=> ?_,fun _ n' hn'=>leaf _ _ _ _ n' _ _ _ _ _ _ _ _ _ _ _ _ hn' hu hv⟩
 intro h0 e0 h1 e1 a' ea h2 e2' h3 e3 b' eb h4 e4' h5 e5 c' ec h6 e6 h7 e7 d' ed q0 eq0 q1 eq1 q2 eq2 q3 eq3
 rw[eq0,eq1,eq2,eq3]
 refine ⟨⟨⟨hu,hv⟩,by rw[ea];exact wrap_i64r _,by rw[eb];exact wrap_i64r _⟩,fun u0 u1 u2 u3 hu'=>⟨⟨⟨hu,hv⟩,by rw[ec];exact wrap_i64r _,by rw[ed];exact wrap_i64r _⟩,fun v0 v1 v2 v3 hv' n' hn'=>leaf _ _ _ _ n' _ _ _ _ _ _ _ _ _ _ _ _ hn' hu' hv'⟩⟩
theorem IvBody.of {i:IvI} {R:Prop→Prop} (hR:∀X:Prop,X→R X) (hQ:IvQ i) (hc:i.n%2=1∨V4 i.a0 i.a1 i.a2 i.a3≠0):IvBody IvQ (PvT 31) i R:=by
 obtain ⟨a,b,ha,hb,⟨haq,hbq,hbo,hcop⟩,hu,hv,hn⟩:=hQ
 have hva:=ha.val
 have hvb:=hb.val
 unfold IvBody
 rw[hva]at hc
 rw[hva,hvb]
 simp only[Int.toNat_natCast]
 refine ⟨ha.wd,fun n0 hn0=>⟨hb.wd,fun n1 hn1 n hn'=> ?_⟩⟩
 obtain ⟨nb,hna,hnb,htop⟩:=max_bl haq hbq hn0 hn1 hn'
 refine ⟨⟨ha.wd,nb,hna⟩,fun xa hxa=>⟨⟨hb.wd,nb,hnb⟩,fun xb hxb=> ?_⟩⟩
 have exa:xa.toNat=apx 31 n.toNat a:=by rw[hxa,Int.toNat_natCast]
 have exb:xb.toNat=apx 31 n.toNat b:=by rw[hxb,Int.toNat_natCast]
 have hRR:R (Q4 i.a0 i.a1 i.a2 i.a3∧Q4 i.b0 i.b1 i.b2 i.b3∧Q4 i.u0 i.u1 i.u2 i.u3∧Q4 i.v0 i.v1 i.v2 i.v3∧Q4 i.s0 i.s1 i.s2 i.s3):=
  hR _ ⟨⟨rfl,rfl,rfl,rfl⟩,⟨rfl,rfl,rfl,rfl⟩,⟨rfl,rfl,rfl,rfl⟩,⟨rfl,rfl,rfl,rfl⟩,rfl,rfl,rfl,rfl⟩
 refine ⟨⟨⟨0,⟨xa.toNat,xb.toNat,1,0,0,1⟩⟩,⟨Nat.zero_le _,rfl⟩,⟨trivial,trivial,trivial,trivial,trivial,show 1=pk 1 0 by decide,show 4294967296=pk 0 1 by decide,by rw[hxa];rfl,by rw[hxb];rfl,rfl⟩,hRR⟩,?_⟩
 rintro ⟨j,s⟩ hT
 have hT':=hT
 obtain ⟨hj,hs⟩:=hT'
 dsimp only at hj hs ⊢
 rw[exa,exb]at hs
 refine ⟨fun h=> ?_,fun h=> ?_⟩
 ·simp only[decide_eq_true_eq]at h
  have hlt:=prun_lt (f:=1) (g:=0) (f':=0) (g':=1) (apx_lt (lo:=31) (by omega) hna) (apx_lt (lo:=31) (by omega) hnb) j
  rw[←hs]at hlt
  exact PvRound.of hT (by omega) (by decide) hlt.1 hlt.2 hRR
 ·simp only[decide_eq_false_iff_not]at h
  have hj31:j=31:=by omega
  subst hj31
  obtain ⟨hL,A,B,hO⟩:=outer (lo:=31) (m:=31) (n:=n.toNat) (a:=a) (b:=b) (by decide) (by decide) (by decide) htop hbo hcop
  rw[←hs]at hL hO
  refine IvAfter.of hR ha hb haq hbq hu hv hn ?_ hL hO
  by_cases ha0:0<a
  ·exact .inl (hO.dec ha0)
  ·right
   have a0:a=0:=by omega
   subst a0
   have hn2:i.n%2=1:=by
    rcases hc with h | h
    ·exact h
    ·exact absurd rfl h
   obtain ⟨hb1,_⟩:=K_zero hcop
   subst hb1
   obtain ⟨_,hB1⟩:=hO.le 1 (by omega) (by omega)
   have en:n.toNat≤64:=by
    have h0:bl 0=0:=by decide
    have h1:bl 1=1:=by decide
    rw[h0]at hn0
    rw[h1]at hn1
    split at hn'<;>omega
   have e0:apx 31 n.toNat 0=0:=by unfold apx;rw[if_pos en]
   have e1:apx 31 n.toNat 1=1:=by unfold apx;rw[if_pos en]
   have hA:A=0:=by
    have hra:=hO.ra
    have hsum:=hL.sum
    have hod:=hL.odd
    rw[e0,e1]at hsum
    rcases hsum with ⟨h1,h2,_,_⟩ | h
    ·rw[h1,h2]at hra
     have:((2 ^ 31:Nat):Int)*A=0:=by rw[hra];simp
     rcases Int.mul_eq_zero.1 this with h | h
     ·exact absurd h (by decide)
     ·exact h
    ·omega
   refine ⟨?_,hn2⟩
   rw[hA]
   show 0+B.natAbs≤0+1
   omega
def IvR (X:Nat) (y0 y1 y2 y3:Int):Prop:=∃Y,El y0 y1 y2 y3 (mont Y)∧Y<qN∧(X%qN=0→Y=0)∧(X%qN≠0→X*Y%qN=1)
theorem mont_of {r:Nat} (h:r<qN):mont (mmul r 1)=r:=by
 unfold mont mmul
 rw[Nat.mul_one]
 have e:r*rInv%qN*r2N*rInv%qN=r*(r2N*rInv*rInv)%qN:=by
  have e2:r*rInv*(r2N*rInv)=r*(r2N*rInv*rInv):=by simp only[Nat.mul_assoc,Nat.mul_left_comm,Nat.mul_comm]
  rw[Nat.mul_assoc (r*rInv%qN),Nat.mod_mul_mod,e2]
 rw[e,Nat.mul_mod,one_eq,Nat.mul_one,Nat.mod_mod,Nat.mod_eq_of_lt h]
theorem one4_eq:one4=((mont 1:Nat):Int):=by decide +kernel
theorem mont_inj {x y:Nat} (h:mont x=mont y):x%qN=y%qN:=by rw[←mont_back x,←mont_back y,h]
def WvQ (x:Nat) (k:WvI):Prop:=W4 k.v0 k.v1 k.v2 k.v3∧Wd k.n∧(x=0→Ws k.v0 k.v1 k.v2 k.v3 0)
theorem mmul_zero (y:Nat):mmul 0 y=0:=by unfold mmul;simp
theorem IvExit.of {X:Nat} {i:IvI} {R:Prop→Prop} {a0 a1 a2 a3:Int} {K:SV→Mem→Prop} {M:Reg→Reg→Reg→Reg→Reg→Mem} (hR:∀X:Prop,X→R X) (hx:El a0 a1 a2 a3 (mont X)) (hv:W4 i.v0 i.v1 i.v2 i.v3) (hn:Wd i.n) (hz:mont X=0→Ws i.v0 i.v1 i.v2 i.v3 0)
  (hK:∀y0 y1 y2 y3,IvR X y0 y1 y2 y3→∀g1 g2 g3 g4,K (.ptr 1 (.lit 0)) (M ⟨false,w4 y0 y1 y2 y3⟩ g1 g2 g3 g4)):IvExit (WvQ (mont X)) i R a0 a1 a2 a3 K M:=by
 have hp:El 4611686018427387904 0 0 0 4611686018427387904:=⟨by decide,by decide,by decide,by decide,by decide⟩
 refine ⟨⟨⟨i.v0,i.v1,i.v2,i.v3,i.n⟩,⟨hv,hn,hz⟩,rfl,hR _ ⟨⟨rfl,rfl,rfl,rfl⟩,rfl,rfl,rfl,rfl⟩⟩,?_⟩
 rintro ⟨v0,v1,v2,v3,n⟩ ⟨hv,hn,hz⟩
 dsimp only at hv hn hz ⊢
 have wv:=ws_of hv.1 hv.2.1 hv.2.2.1 hv.2.2.2
 refine ⟨fun h=>⟨_,_,⟨wv,hp⟩,fun r hr y0 y1 y2 y3 hy n' hn'=> ?_⟩,fun h=> ?_⟩
 ·simp only[decide_eq_true_eq]at h
  unfold Wd at hn
  rw[wu64]at hn'
  refine ⟨⟨y0,y1,y2,y3,n'⟩,⟨hy.wd,by simp only;unfold Wd;omega,fun h0=> ?_⟩,⟨rfl,hR _ ⟨⟨rfl,rfl,rfl,rfl⟩,rfl,rfl,rfl,rfl⟩⟩,by simp only;omega⟩
  have hv0:=(hz h0).val
  rw[hv0]at hr
  have e:r=0:=by rw[hr];exact mmul_zero _
  rw[e]at hy
  exact hy.ws
 ·have hcw:=El.of_words (a:=11111708840330028223) (b:=3098618286181893933) (c:=756602578711705709) (d:=1041752015607019851) (by unfold Wd;omega) (by unfold Wd;omega) (by unfold Wd;omega) (by unfold Wd;omega) (by unfold V4;omega)
  refine ⟨_,_,⟨wv,hcw⟩,fun r hr y0 y1 y2 y3 hy=>⟨_,_,⟨hx.ws,hy⟩,fun r2 hr2 u0 u1 u2 u3 hu=>⟨hu.wd,fun hne=>⟨hx.wd,fun hx0=> ?_,fun hx0=> ?_⟩,fun heq=> ?_⟩⟩⟩
  ·rintro _ rfl _ rfl _ rfl _ rfl
   refine ⟨X,hx,fun w0 w1 w2 w3 hw=>hK _ _ _ _ ⟨X ^ qm2%qN,by rw[mont_mod];exact hw,Nat.mod_lt _ (by decide),?_,?_⟩ _ _ _ _⟩
   ·intro h0
    exfalso
    rw[hx.val]at hx0
    have:mont X=0:=by rw[←mont_mod,h0,mont_zero]
    rw[this]at hx0
    simp at hx0
   ·intro h0
    have hf:=fermat q_pri h0
    rw[Nat.mul_mod_mod,Nat.mul_comm,←Nat.pow_succ]
    exact hf
  ·rw[hx.val]at hx0
   have hX0:mont X=0:=by
    simp only[Bool.not_eq_false',decide_eq_true_eq]at hx0
    omega
   have hXm:X%qN=0:=by
    have:=mont_inj (hX0.trans mont_zero.symm)
    rw[this]
    rfl
   have hv0:=(hz hX0).val
   rw[hv0]at hr
   have e:r=0:=by rw[hr];exact mmul_zero _
   rw[e]at hy
   exact hK _ _ _ _ ⟨0,by rw[mont_zero];exact hy,by decide,fun _=>rfl,fun h=>absurd hXm h⟩ _ _ _ _
  ·have hv1:V4 u0 u1 u2 u3=one4:=by simpa using heq
   rw[hu.val,one4_eq]at hv1
   have hr1:r2=mont 1:=by omega
   rw[hr2,←mont_of hy.lt,mont_mul]at hr1
   have hxy:=mont_inj hr1
   have h11:1%qN=1:=by decide
   rw[h11]at hxy
   refine hK _ _ _ _ ⟨mmul r 1,by rw[mont_of hy.lt];exact hy,mmul_lt _ _,fun h0=> ?_,fun _=>hxy⟩ _ _ _ _
   exfalso
   rw[Nat.mul_mod,h0,Nat.zero_mul,Nat.zero_mod]at hxy
   omega
theorem w4_0:W4 0 0 0 0:=⟨wd0,wd0,wd0,wd0⟩
theorem band1 {n e:Int} (hn:Wd n) (he:e=band .u64 n 1):e=n%2:=by
 unfold Wd at hn
 obtain ⟨m,rfl⟩:=Int.eq_ofNat_of_zero_le hn.1
 rw[band_nat m (by omega) (n:=1) (by omega) (by decide)]at he
 omega
theorem iv_walk {X:Nat} {a0 a1 a2 a3:Int} {K:SV→Mem→Prop} {M:Reg→Reg→Reg→Reg→Reg→Mem} {R:Prop→Prop} (hR:∀X:Prop,X→R X) (hx:El a0 a1 a2 a3 (mont X)) (h0:mont X≠0)
  (hK:∀y0 y1 y2 y3,IvR X y0 y1 y2 y3→∀g1 g2 g3 g4,K (.ptr 1 (.lit 0)) (M ⟨false,w4 y0 y1 y2 y3⟩ g1 g2 g3 g4)):
  IvAll IvQ (PvT 31) (WvQ (mont X)) R a0 a1 a2 a3 K M:=by
 unfold IvAll
 intro x0 g0 x1 g1 x2 g2 x3 g3
 rw[g0,g1,g2,g3]
 have hl:=hx.lt
 refine ⟨⟨⟨a0,a1,a2,a3,4332616871279656263,10917124144477883021,13281191951274694749,3486998266802970665,1,0,0,0,0,0,0,0,0,0,0,0,0,0,0,0,0⟩,
  ⟨mont X,qN,hx.ws,q_ws,⟨by omega,Nat.le_refl _,q_odd,q_pri.cop (by omega) hl⟩,⟨show Wd 1 by unfold Wd;omega,wd0,wd0,wd0⟩,w4_0,wd0⟩,⟨rfl,rfl,rfl,rfl,rfl⟩,hR _ ⟨⟨rfl,rfl,rfl,rfl⟩,⟨rfl,rfl,rfl,rfl⟩,⟨rfl,rfl,rfl,rfl⟩,⟨rfl,rfl,rfl,rfl⟩,rfl,rfl,rfl,rfl⟩⟩,?_⟩
 intro i hQ e he
 have hQ':=hQ
 obtain ⟨a,b,ha,hb,_,hu,hv,hn⟩:=hQ'
 have e1:=band1 hn he
 refine ⟨fun h=>IvBody.of hR hQ (.inl ?_),fun _=>⟨ha.wd,fun hne=>IvBody.of hR hQ (.inr ?_),fun _=>IvExit.of hR hx hv hn (fun hz=>absurd hz h0) hK⟩⟩
 ·have:e=1:=by simpa using h
  omega
 ·simpa using hne
theorem iv_zero {X:Nat} {a0 a1 a2 a3:Int} {K:SV→Mem→Prop} {M:Reg→Reg→Reg→Reg→Reg→Mem} {R:Prop→Prop} (hR:∀X:Prop,X→R X) (hx:El a0 a1 a2 a3 (mont X)) (h0:mont X=0)
  (hK:∀y0 y1 y2 y3,IvR X y0 y1 y2 y3→∀g1 g2 g3 g4,K (.ptr 1 (.lit 0)) (M ⟨false,w4 y0 y1 y2 y3⟩ g1 g2 g3 g4)):
  IvAll (fun i=>Ws i.a0 i.a1 i.a2 i.a3 0∧i.n=0∧Ws i.v0 i.v1 i.v2 i.v3 0) (PvT 31) (WvQ (mont X)) R a0 a1 a2 a3 K M:=by
 unfold IvAll
 intro x0 g0 x1 g1 x2 g2 x3 g3
 rw[g0,g1,g2,g3]
 have hw:=hx.ws
 rw[h0]at hw
 have z4:Ws 0 0 0 0 0:=⟨by decide,by decide,by decide,by decide,by decide⟩
 refine ⟨⟨⟨a0,a1,a2,a3,4332616871279656263,10917124144477883021,13281191951274694749,3486998266802970665,1,0,0,0,0,0,0,0,0,0,0,0,0,0,0,0,0⟩,
  ⟨hw,rfl,z4⟩,⟨rfl,rfl,rfl,rfl,rfl⟩,hR _ ⟨⟨rfl,rfl,rfl,rfl⟩,⟨rfl,rfl,rfl,rfl⟩,⟨rfl,rfl,rfl,rfl⟩,⟨rfl,rfl,rfl,rfl⟩,rfl,rfl,rfl,rfl⟩⟩,?_⟩
 rintro i ⟨ha,hn,hv⟩ e he
 rw[hn]at he
 have e1:=band1 wd0 he
 have hwn:Wd i.n:=by rw[hn];exact wd0
 refine ⟨fun h=> ?_,fun _=>⟨ha.wd,fun hne=> ?_,fun _=>IvExit.of hR hx hv.wd hwn (fun _=>hv) hK⟩⟩
 ·have:e=1:=by simpa using h
  omega
 ·rw[ha.val]at hne
  simp at hne
theorem iv_live (X:Nat):∃Y,Y<qN∧(X%qN=0→Y=0)∧(X%qN≠0→X*Y%qN=1):=by
 by_cases h:X%qN=0
 ·exact ⟨0,by decide,fun _=>rfl,fun h'=>absurd h h'⟩
 ·refine ⟨X ^ qm2%qN,Nat.mod_lt _ (by decide),fun h'=>absurd h' h,fun _=> ?_⟩
  have hf:=fermat q_pri h
  rw[Nat.mul_mod_mod,Nat.mul_comm,←Nat.pow_succ]
  exact hf
def gIv:G0:=fun args l K=>
 match args,l with
 | [.ptr 1 (.lit 0),.ptr 1 (.lit 0)],[(1,⟨false,z⟩)]=>c4 z fun z0 z1 z2 z3=>∃X,El z0 z1 z2 z3 (mont X)∧∀y0 y1 y2 y3,IvR X y0 y1 y2 y3→K (.ptr 1 (.lit 0)) (memL [(1,⟨false,w4 y0 y1 y2 y3⟩)])
 | [.ptr 1 (.lit 0),.ptr 9 (.lit 0)],[(1,⟨false,z⟩),(9,⟨true,x⟩)]=>c4 z fun _ _ _ _=>c4 x fun x0 x1 x2 x3=>∃X,El x0 x1 x2 x3 (mont X)∧∀y0 y1 y2 y3,IvR X y0 y1 y2 y3→K (.ptr 1 (.lit 0)) (memL [(1,⟨false,w4 y0 y1 y2 y3⟩),(9,⟨true,w4 x0 x1 x2 x3⟩)])
 | _,_=>False
theorem iv_good:Good gIv:=by
 constructor
 ·intro args l K K' hk h
  unfold gIv at h ⊢
  split at h
  ·exact c4_mono (fun _ _ _ _ h=>h.elim fun X h=>⟨X,h.1,fun y0 y1 y2 y3 hy=>hk _ _ (h.2 y0 y1 y2 y3 hy)⟩) h
  ·exact c4_mono (fun _ _ _ _ h=>c4_mono (fun _ _ _ _ h=>h.elim fun X h=>⟨X,h.1,fun y0 y1 y2 y3 hy=>hk _ _ (h.2 y0 y1 y2 y3 hy)⟩) h) h
  ·exact h.elim
 ·intro args l K h
  unfold gIv at h
  split at h
  ·obtain ⟨_,_,_,_,_,h⟩:=c4_ex h
   obtain ⟨X,_,h⟩:=h
   obtain ⟨Y,h1,h2,h3⟩:=iv_live X
   exact ⟨_,_,h _ _ _ _ ⟨Y,El.of (mont_lt _),h1,h2,h3⟩⟩
  ·obtain ⟨_,_,_,_,_,h⟩:=c4_ex h
   obtain ⟨_,_,_,_,_,h⟩:=c4_ex h
   obtain ⟨X,_,h⟩:=h
   obtain ⟨Y,h1,h2,h3⟩:=iv_live X
   exact ⟨_,_,h _ _ _ _ ⟨Y,El.of (mont_lt _),h1,h2,h3⟩⟩
  ·exact h.elim
theorem iv_ok (args:List SV) (l:List (Nat×Reg)) (K:SV→Mem→Prop) (hup:KUp K) (h:gIv args l K):∃U,execF cxIv U Tryz.f74 64 args (memL l) K:=by
 unfold gIv at h
 split at h
 ·obtain ⟨z0,z1,z2,z3,rfl,q0⟩:=c4_ex h
  obtain ⟨X,hx,hK⟩:=q0
  have hK2:∀y0 y1 y2 y3,IvR X y0 y1 y2 y3→∀g1 g2 g3 g4,K (.ptr 1 (.lit 0)) (mIv ⟨false,w4 y0 y1 y2 y3⟩ g1 g2 g3 g4):=fun y0 y1 y2 y3 hy g1 g2 g3 g4=>
   hup.le (memL_sub [1,545,593,665,809] rfl (by decide) (by
    intro x hx
    simp only[List.mem_cons,List.not_mem_nil,or_false]at hx ⊢
    simp[hx])) (hK y0 y1 y2 y3 hy)
  by_cases h0:mont X=0
  ·exact ⟨_,(vc_iv _ _ _ _ _ _ _ _).mpr (iv_zero (fun _ h=>⟨⟨rfl,rfl,rfl,rfl⟩,h⟩) hx h0 hK2)⟩
  ·exact ⟨_,(vc_iv _ _ _ _ _ _ _ _).mpr (iv_walk (fun _ h=>⟨⟨rfl,rfl,rfl,rfl⟩,h⟩) hx h0 hK2)⟩
 ·obtain ⟨z0,z1,z2,z3,rfl,q0⟩:=c4_ex h
  obtain ⟨x0,x1,x2,x3,rfl,q0⟩:=c4_ex q0
  obtain ⟨X,hx,hK⟩:=q0
  have hK2:∀y0 y1 y2 y3,IvR X y0 y1 y2 y3→∀g1 g2 g3 g4,K (.ptr 1 (.lit 0)) (mIx ⟨true,w4 x0 x1 x2 x3⟩ ⟨false,w4 y0 y1 y2 y3⟩ g1 g2 g3 g4):=fun y0 y1 y2 y3 hy g1 g2 g3 g4=>
   hup.le (memL_sub [1,9,545,593,665,809] rfl (by decide) (by
    intro x hx
    simp only[List.mem_cons,List.not_mem_nil,or_false]at hx ⊢
    rcases hx with rfl | rfl<;>simp)) (hK y0 y1 y2 y3 hy)
  have hR:∀X:Prop,X→Q4 z0 z1 z2 z3∧Q4 x0 x1 x2 x3∧X:=fun _ h=>⟨⟨rfl,rfl,rfl,rfl⟩,⟨rfl,rfl,rfl,rfl⟩,h⟩
  by_cases h0:mont X=0
  ·exact ⟨_,(vc_ivx _ _ _ _ _ _ _ _ _ _ _ _).mpr (iv_zero hR hx h0 hK2)⟩
  ·exact ⟨_,(vc_ivx _ _ _ _ _ _ _ _ _ _ _ _).mpr (iv_walk hR hx h0 hK2)⟩
 ·exact h.elim
def kIv:Ef Tryz.prog:=mkE mixed 74 Tryz.func74 (by decide) (by kernel_rfl) [] [.ptr 4 false,.ptr 4 true] gIv iv_good iv_ok
end Go.Sx
namespace Go.Sx
open Go Go.Proofs
set_option maxRecDepth 100000
def cxSm:Cx Tryz.prog:= { rds:= [cWs,cLs,cWd],efs:= [],eqs:= [] }
theorem vc_sm (a0 a1 a2 a3 b0 b1 b2 b3 m0 m1 m2 m3:Int) (K:SV→Mem→Prop):(execF cxSm u9 Tryz.f93 64 [ag4 a0 a1 a2 a3,ag4 b0 b1 b2 b3,ag4 m0 m1 m2 m3] (memL []) K)=(∀y,y=a0→∀z,z=a1→∀A,A=a2→∀B,B=a3→∀C,C
 =b0→∀D,D=b1→∀E,E=b2→∀F,F=b3→((Wd y∧Wd z∧Wd A∧Wd B)∧Wd C∧Wd D∧Wd E∧Wd F)∧(decide (V4 y z A B<V4 C D E F)=true→∀i,i=a0→∀j,j=a1→∀k,k=a2→∀l,l=a3→∀m,m=b0→∀n,n=b1→∀
 o,o=b2→∀p,p=b3→(((Wd i∧Wd j∧Wd k∧Wd l)∧Wd m∧Wd n∧Wd o∧Wd p)∧∀a,a=lm (w256 (V4 i j k l-V4 m n o p)) 0→∀b,b=lm (w256 (V4 i j k l-V4 m n o p)) 1→∀c,c=lm (w256 (V4 i j k l-V4 m n o p)) 2→∀d,
 d=lm (w256 (V4 i j k l-V4 m n o p)) 3→∀e,e=m0→∀f,f=m1→∀g,g=m2→∀h,h=m3→(((Wd a∧Wd b∧Wd c∧Wd d)∧Wd e∧Wd f∧Wd g∧Wd h)∧∀G,G=lm (w256 (V4 a b c d+V4 e f g h)) 0→∀H,H=lm (w256 (V4 a b c d
 + V4 e f g h)) 1→∀I,I=lm (w256 (V4 a b c d+V4 e f g h)) 2→∀J,J=lm (w256 (V4 a b c d+V4 e f g h)) 3→K (.agg [.int .u64 (.sym G),.int .u64 (.sym H),.int .u64 (.sym I),.int .u64 (.sym J)]) (memL [(513,⟨false,.cells
 [.int .u64 (.sym a0),.int .u64 (.sym a1),.int .u64 (.sym a2),.int .u64 (.sym a3)]⟩),(521,⟨false,.cells [.int .u64 (.sym b0),.int .u64 (.sym b1),.int .u64 (.sym b2),.int .u64 (.sym b3)]⟩),(529,⟨false,.cells [.int .u64 (.sym m0),
 .int .u64 (.sym m1),.int .u64 (.sym m2),.int .u64 (.sym m3)]⟩),(537,⟨false,.cells [.int .u64 (.sym G),.int .u64 (.sym H),.int .u64 (.sym I),.int .u64 (.sym J)]⟩),(633,⟨false,.cells [.int .u64 (.sym (lm (w256 (V4 a b c d+V4 e f
 g h)) 0)),.int .u64 (.sym (lm (w256 (V4 a b c d+V4 e f g h)) 1)),.int .u64 (.sym (lm (w256 (V4 a b c d+V4 e f g h)) 2)),.int .u64 (.sym (lm (w256 (V4 a b c d+V4 e f g h)) 3))]⟩)]))))∧(decide (V4 y z A B<V4 C D E F)=false→∀
 q,q=a0→∀r,r=a1→∀s,s=a2→∀t,t=a3→∀u,u=b0→∀v,v=b1→∀w,w=b2→∀x,x=b3→(((Wd q∧Wd r∧Wd s∧Wd t)∧Wd u∧Wd v∧Wd w∧Wd x)∧∀L,L=lm (w256 (V4 q r s t-V4 u v w x)) 0→∀M,M=lm (w256
 (V4 q r s t-V4 u v w x)) 1→∀N,N=lm (w256 (V4 q r s t-V4 u v w x)) 2→∀O,O=lm (w256 (V4 q r s t-V4 u v w x)) 3→K (.agg [.int .u64 (.sym L),.int .u64 (.sym M),.int .u64 (.sym N),.int .u64 (.sym O)]) (memL [(513,⟨false,
 .cells [.int .u64 (.sym a0),.int .u64 (.sym a1),.int .u64 (.sym a2),.int .u64 (.sym a3)]⟩),(521,⟨false,.cells [.int .u64 (.sym b0),.int .u64 (.sym b1),.int .u64 (.sym b2),.int .u64 (.sym b3)]⟩),(529,⟨false,.cells [.int .u64
 (.sym m0),.int .u64 (.sym m1),.int .u64 (.sym m2),.int .u64 (.sym m3)]⟩),(537,⟨false,.cells [.int .u64 (.sym L),.int .u64 (.sym M),.int .u64 (.sym N),.int .u64 (.sym O)]⟩)])))):=by kernel_rfl
theorem vc_halfw (a0 a1 a2 a3:Int) (K:SV→Mem→Prop):(execF cxSm u9 Tryz.f138 64 [ag4 a0 a1 a2 a3] (memL []) K)=(∀i,i=shrv .u64 a0 1→∀j,j=shlv .u64 a1 63→∀a,a=IntKind.wrap IntKind.u64 (i+j)→∀k,k=shrv .u64 a1 1
 →∀l,l=shlv .u64 a2 63→∀b,b=IntKind.wrap IntKind.u64 (k+l)→∀m,m=shrv .u64 a2 1→∀n,n=shlv .u64 a3 63→∀c,c=IntKind.wrap IntKind.u64 (m+n)→∀d,d=shrv .u64 a3 1→∀e,e=a→∀f,f=b→∀g,g=c→∀h,
 h=d→K (.agg [.int .u64 (.sym e),.int .u64 (.sym f),.int .u64 (.sym g),.int .u64 (.sym h)]) (memL [(513,⟨false,.cells [.int .u64 (.sym a),.int .u64 (.sym b),.int .u64 (.sym c),.int .u64 (.sym d)]⟩),(521,⟨false,.cells [.int
 .u64 (.sym e),.int .u64 (.sym f),.int .u64 (.sym g),.int .u64 (.sym h)]⟩)])):=by kernel_rfl
theorem vc_bit (a0 a1 a2 a3 i:Int) (K:SV→Mem→Prop):(execF cxSm u9 Tryz.f160 64 [ag4 a0 a1 a2 a3,.int .i64 (.sym i)] (memL []) K)=(∀a,a=IntKind.wrap IntKind.i64 (Int.tdiv i (64:Int))→(0≤a∧a<4)∧(Int.toNat a*1+1
 ≤List.length [a0,a1,a2,a3]∧∀c:Int,c=List.getD [a0,a1,a2,a3] (Int.toNat a*1) (0:Int)→∀b,b=Int.tmod i (64:Int)→(0≤b∧∀d,d=shrv .u64 c (Int.toNat b)→∀e,e=Int.tmod d (2:Int)→K (.int .u64 (.sym e))
 (memL [(513,⟨false,.cells [.int .u64 (.sym a0),.int .u64 (.sym a1),.int .u64 (.sym a2),.int .u64 (.sym a3)]⟩)])))):=by kernel_rfl
theorem smd1 {A B M:Int} (h0:0≤A) (hB:B<M) (hM:M<115792089237316195423570985008687907853269984665640564039457584007913129639936) (h:A<B):w256 ((w256 (A-B):Int)+M)=((A-B)%M).toNat:=by
 have e:(A-B)%M=A-B+M:=by
  rw[←Int.add_emod_right,Int.emod_eq_of_lt (by omega) (by omega)]
 rw[e]
 unfold w256
 omega
theorem sm2 {A B M:Int} (h0:0≤B) (hA:A<M) (hM:M<115792089237316195423570985008687907853269984665640564039457584007913129639936) (h:¬A<B):w256 (A-B)=((A-B)%M).toNat:=by
 rw[Int.emod_eq_of_lt (by omega) (by omega)]
 unfold w256
 omega
def rSm:R0:=fun args l=>
 match args,l with
 | [.agg [.int .u64 (.sym a0),.int .u64 (.sym a1),.int .u64 (.sym a2),.int .u64 (.sym a3)],.agg [.int .u64 (.sym b0),.int .u64 (.sym b1),.int .u64 (.sym b2),.int .u64 (.sym b3)],.agg [.int .u64 (.sym m0),.int .u64 (.sym m1),.int .u64 (.sym m2),.int .u64 (.sym m3)]],[]=>
  some (some (((Wd a0∧Wd a1∧Wd a2∧Wd a3)∧(Wd b0∧Wd b1∧Wd b2∧Wd b3)∧(Wd m0∧Wd m1∧Wd m2∧Wd m3))∧V4 a0 a1 a2 a3<V4 m0 m1 m2 m3∧V4 b0 b1 b2 b3<V4 m0 m1 m2 m3),ag4 (lm (((V4 a0 a1 a2 a3-V4 b0 b1 b2 b3)%V4 m0 m1 m2 m3).toNat) 0) (lm (((V4 a0 a1 a2 a3-V4 b0 b1 b2 b3)%V4 m0 m1 m2 m3).toNat) 1) (lm (((V4 a0 a1 a2 a3-V4 b0 b1 b2 b3)%V4 m0 m1 m2 m3).toNat) 2) (lm (((V4 a0 a1 a2 a3-V4 b0 b1 b2 b3)%V4 m0 m1 m2 m3).toNat) 3))
 | _,_=>none
theorem sm_ok (args:List SV) (l:List (Nat×Reg)) (p:Ob) (v:SV) (h:rSm args l=some (p,v)) (hp:p.ok):∃U,execF cxSm U Tryz.f93 64 args (memL l) fun v' _=>v'=v:=by
 unfold rSm at h
 split at h
 ·rename_i a0 a1 a2 a3 b0 b1 b2 b3 m0 m1 m2 m3
  simp only[Option.some.injEq,Prod.mk.injEq]at h
  obtain ⟨rfl,rfl⟩:=h
  obtain ⟨⟨ha,hb,hm⟩,hA,hB⟩:((Wd a0∧Wd a1∧Wd a2∧Wd a3)∧(Wd b0∧Wd b1∧Wd b2∧Wd b3)∧(Wd m0∧Wd m1∧Wd m2∧Wd m3))∧V4 a0 a1 a2 a3<V4 m0 m1 m2 m3∧V4 b0 b1 b2 b3<V4 m0 m1 m2 m3:=hp
  have nA:=V4_nonneg ha.1 ha.2.1 ha.2.2.1 ha.2.2.2
  have nB:=V4_nonneg hb.1 hb.2.1 hb.2.2.1 hb.2.2.2
  have lM:=V4_lt hm.1 hm.2.1 hm.2.2.1 hm.2.2.2
  have W:∀s i,Wd (lm s i):=lm_wd
  refine ⟨u9,?_⟩
  have:=vc_sm a0 a1 a2 a3 b0 b1 b2 b3 m0 m1 m2 m3 fun v' _=>v'=ag4 (lm (((V4 a0 a1 a2 a3-V4 b0 b1 b2 b3)%V4 m0 m1 m2 m3).toNat) 0) (lm (((V4 a0 a1 a2 a3-V4 b0 b1 b2 b3)%V4 m0 m1 m2 m3).toNat) 1) (lm (((V4 a0 a1 a2 a3-V4 b0 b1 b2 b3)%V4 m0 m1 m2 m3).toNat) 2) (lm (((V4 a0 a1 a2 a3-V4 b0 b1 b2 b3)%V4 m0 m1 m2 m3).toNat) 3)
  unfold ag4 at this
  refine this.mpr ?_
  clear this
  rintro _ rfl _ rfl _ rfl _ rfl _ rfl _ rfl _ rfl _ rfl
  refine ⟨⟨ha,hb⟩,fun h=> ?_,fun h=> ?_⟩
  ·simp only[decide_eq_true_eq]at h
   rintro _ rfl _ rfl _ rfl _ rfl _ rfl _ rfl _ rfl _ rfl
   refine ⟨⟨ha,hb⟩,?_⟩
   rintro x16 h16 x17 h17 x18 h18 x19 h19 _ rfl _ rfl _ rfl _ rfl
   rw[h16,h17,h18,h19]
   refine ⟨⟨⟨W _ _,W _ _,W _ _,W _ _⟩,hm⟩,?_⟩
   rintro _ rfl _ rfl _ rfl _ rfl
   rw[w256_V4,smd1 nA hB lM h]
  ·simp only[decide_eq_false_iff_not]at h
   rintro _ rfl _ rfl _ rfl _ rfl _ rfl _ rfl _ rfl _ rfl
   refine ⟨⟨ha,hb⟩,?_⟩
   rintro _ rfl _ rfl _ rfl _ rfl
   rw[sm2 nB hA lM h]
 ·cases h
def cSm:Rd Tryz.prog:=mkR mixed 93 Tryz.func93 (by decide) (by kernel_rfl) [] [.num,.num,.num] rSm sm_ok
def rBt:R0:=fun args l=>
 match args,l with
 | [.agg [.int .u64 (.sym a0),.int .u64 (.sym a1),.int .u64 (.sym a2),.int .u64 (.sym a3)],.int .i64 (.sym i)],[]=>some (some ((Wd a0∧Wd a1∧Wd a2∧Wd a3)∧0≤i∧i<256),.int .u64 (.sym ((((V4 a0 a1 a2 a3).toNat / 2 ^ i.toNat%2:Nat):Int))))
 | _,_=>none
theorem bt_ok (args:List SV) (l:List (Nat×Reg)) (p:Ob) (v:SV) (h:rBt args l=some (p,v)) (hp:p.ok):∃U,execF cxSm U Tryz.f160 64 args (memL l) fun v' _=>v'=v:=by
 unfold rBt at h
 split at h
 ·rename_i a0 a1 a2 a3 i
  simp only[Option.some.injEq,Prod.mk.injEq]at h
  obtain ⟨rfl,rfl⟩:=h
  obtain ⟨ha,hi0,hi1⟩:(Wd a0∧Wd a1∧Wd a2∧Wd a3)∧0≤i∧i<256:=hp
  obtain ⟨m,rfl⟩:=Int.eq_ofNat_of_zero_le hi0
  obtain ⟨e0,e1,e2,e3,hl⟩:=ws_of ha.1 ha.2.1 ha.2.2.1 ha.2.2.2
  refine ⟨u9,?_⟩
  have:=vc_bit a0 a1 a2 a3 m fun v' _=>v'= .int .u64 (.sym ((((V4 a0 a1 a2 a3).toNat / 2 ^ ((m:Int)).toNat%2:Nat):Int)))
  unfold ag4 at this
  refine this.mpr ?_
  clear this
  generalize (V4 a0 a1 a2 a3).toNat=X at *
  rw[Int.toNat_natCast,e0,e1,e2,e3]
  intro x0 h0
  rw[Int.tdiv_eq_ediv_of_nonneg (by omega),wrap64 (by omega) (by omega)]at h0
  refine ⟨⟨by omega,by omega⟩,by simp only[List.length_cons,List.length_nil];omega,?_⟩
  intro x1 h1 x2 h2
  rw[Int.tmod_eq_emod_of_nonneg (by omega)]at h2
  refine ⟨by omega,?_⟩
  intro x3 h3 x4 h4
  rw[show x0.toNat=m / 64 by omega,Nat.mul_one,lm_getD X _ (by omega),lm_nat]at h1
  rw[show x2.toNat=m%64 by omega,h1,shr64 (Int.natCast_nonneg _) (by omega)]at h3
  have e3':x3=((X / 2 ^ (64*(m / 64))%2 ^ 64 / 2 ^ (m%64):Nat):Int):=by rw[h3,Int.natCast_ediv,Int.natCast_pow];rfl
  rw[Int.tmod_eq_emod_of_nonneg (by rw[e3'];exact Int.natCast_nonneg _),e3']at h4
  have e4':x4=((X / 2 ^ m%2:Nat):Int):=by rw[h4,←word_bit];rfl
  rw[e4']
 ·cases h
def cBt:Rd Tryz.prog:=mkR mixed 160 Tryz.func160 (by decide) (by kernel_rfl) [] [.num,.num] rBt bt_ok
def rHv:R0:=fun args l=>
 match args,l with
 | [.agg [.int .u64 (.sym a0),.int .u64 (.sym a1),.int .u64 (.sym a2),.int .u64 (.sym a3)]],[]=>some (some (Wd a0∧Wd a1∧Wd a2∧Wd a3),ag4 (lm ((V4 a0 a1 a2 a3).toNat / 2) 0) (lm ((V4 a0 a1 a2 a3).toNat / 2) 1) (lm ((V4 a0 a1 a2 a3).toNat / 2) 2) (lm ((V4 a0 a1 a2 a3).toNat / 2) 3))
 | _,_=>none
theorem hv_ok (args:List SV) (l:List (Nat×Reg)) (p:Ob) (v:SV) (h:rHv args l=some (p,v)) (hp:p.ok):∃U,execF cxSm U Tryz.f138 64 args (memL l) fun v' _=>v'=v:=by
 unfold rHv at h
 split at h
 ·rename_i a0 a1 a2 a3
  simp only[Option.some.injEq,Prod.mk.injEq]at h
  obtain ⟨rfl,rfl⟩:=h
  obtain ⟨h0,h1,h2,h3⟩:(Wd a0∧Wd a1∧Wd a2∧Wd a3):=hp
  refine ⟨u9,?_⟩
  have:=vc_halfw a0 a1 a2 a3 fun v' _=>v'=ag4 (lm ((V4 a0 a1 a2 a3).toNat / 2) 0) (lm ((V4 a0 a1 a2 a3).toNat / 2) 1) (lm ((V4 a0 a1 a2 a3).toNat / 2) 2) (lm ((V4 a0 a1 a2 a3).toNat / 2) 3)
  unfold ag4 at this
  refine this.mpr ?_
  clear this
  have sr:∀ {z:Int},Wd z→shrv .u64 z 1=z / 2:=fun hz=>by rw[shr64 hz.1 (by omega)];rfl
  have sl:∀z:Int,shlv .u64 z 63=z*9223372036854775808%18446744073709551616:=fun z=>by
   unfold shlv
   rw[wu64,show min 63 IntKind.u64.bits=63 by simp[IntKind.bits]]
   rfl
  intro x0 g0 x1 g1 x2 g2 x3 g3 x4 g4 x5 g5 x6 g6 x7 g7 x8 g8 x9 g9
  rw[sr h0]at g0
  rw[sr h1]at g3
  rw[sr h2]at g6
  rw[sr h3]at g9
  rw[sl]at g1 g4 g7
  rw[wu64]at g2 g5 g8
  intro y0 k0 y1 k1 y2 k2 y3 k3
  rw[k0,k1,k2,k3]
  unfold Wd at h0 h1 h2 h3
  have w2:Wd x2:=by unfold Wd;omega
  have w5:Wd x5:=by unfold Wd;omega
  have w8:Wd x8:=by unfold Wd;omega
  have w9:Wd x9:=by unfold Wd;omega
  obtain ⟨q0,q1,q2,q3⟩:=lm_of w2 w5 w8 w9 (x:=(V4 a0 a1 a2 a3).toNat / 2) (by unfold V4;omega)
  rw[←q0,←q1,←q2,←q3]
 ·cases h
def cHv:Rd Tryz.prog:=mkR mixed 138 Tryz.func138 (by decide) (by kernel_rfl) [] [.num] rHv hv_ok
end Go.Sx
namespace Go.Sx
open Go Go.Proofs Go.Num
set_option maxRecDepth 100000
def liPw (S:IeI→Prop):LI where
 ι:=IeI
 keep:= [2,3,4,5]
 keepR:= [513,521,529]
 F:=fun i=>⟨[(6,.int .i64 (.sym ((i.n:Nat)-1)))],[(545,⟨false,w4 i.z0 i.z1 i.z2 i.z3⟩)]⟩
 I:=fun _ i=>S i
 μ:=fun i=>i.n
def uPw (S:IeI→Prop):Nat→Lp:=fun n=>match n with | 0=> .inv (liPw S) | _=> .un 0
def cxPw:Cx Tryz.prog:= { rds:= [cMl,cBt],efs:= [],eqs:= [] }
end Go.Sx
namespace Go.Sx
open Go
def hvm (a m:Nat):Nat:=if a%2=1 then (a+m) / 2 else a / 2
end Go.Sx
namespace Go.Sx
open Go Go.Proofs Go.Num
set_option maxRecDepth 100000
theorem Vq (a:Nat):V4 (lm (a%qN) 0) (lm (a%qN) 1) (lm (a%qN) 2) (lm (a%qN) 3)=((a%qN:Nat):Int):=lm_val (Nat.lt_trans (Nat.mod_lt _ (by decide)) (by decide))
theorem qN_eq:qN=21888242871839275222246405745257275088696311157297823662689037894645226208583:=rfl
theorem vc_pw (S:IeI→Prop) (a0 a1 a2 a3 b0 b1 b2 b3:Int) (K:SV→Mem→Prop):(execF cxPw (uPw S) Tryz.f139 64 [ag4 a0 a1 a2 a3,ag4 b0 b1 b2 b3] (memL []) K)=((∃d:IeI,S d∧255=((IeI.n d:Nat):Int)-1∧(a0=a0∧a1=
 a1∧a2=a2∧a3=a3)∧(b0=b0∧b1=b1∧b2=b2∧b3=b3)∧1=IeI.z0 d∧0=IeI.z1 d∧0=IeI.z2 d∧0=IeI.z3 d)∧∀a:IeI,S a→(decide (((IeI.n a:Nat):Int)-1≥0)=true→∀e,e=IeI.z0 a→∀f,f=IeI.z1 a→∀
 g,g=IeI.z2 a→∀h,h=IeI.z3 a→∀i,i=IeI.z0 a→∀j,j=IeI.z1 a→∀k,k=IeI.z2 a→∀l,l=IeI.z3 a→(((Wd e∧Wd f∧Wd g∧Wd h)∧Wd i∧Wd j∧Wd k∧Wd l)∧∀u,u=lm (Int.toNat (V4 e f g h)*Int.toNat (V4 i j k l)
 % 21888242871839275222246405745257275088696311157297823662689037894645226208583) 0→∀v,v=lm (Int.toNat (V4 e f g h)*Int.toNat (V4 i j k l)%21888242871839275222246405745257275088696311157297823662689037894645226208583) 1→∀w,w=
 lm (Int.toNat (V4 e f g h)*Int.toNat (V4 i j k l)%21888242871839275222246405745257275088696311157297823662689037894645226208583) 2→∀x,x=lm (Int.toNat (V4 e f g h)*Int.toNat (V4 i j k l) %
 21888242871839275222246405745257275088696311157297823662689037894645226208583) 3→∀y,y=b0→∀z,z=b1→∀A,A=b2→∀B,B=b3→(((Wd y∧Wd z∧Wd A∧Wd B)∧0≤((IeI.n a:Nat):Int)-1∧((IeI.n a:Nat):Int)-1<256)
 ∧∀C:Int,C=((Int.toNat (V4 y z A B) / (2:Nat) ^ Int.toNat (((IeI.n a:Nat):Int)-1)%2:Nat):Int)→((C==1)=true→∀m,m=u→∀n,n=v→∀o,o=w→∀p,p=x→∀q,q=a0→∀r,r=a1→∀s,s=a2→∀t,t=
 a3→(((Wd m∧Wd n∧Wd o∧Wd p)∧Wd q∧Wd r∧Wd s∧Wd t)∧∀H,H=lm (Int.toNat (V4 m n o p)*Int.toNat (V4 q r s t)%21888242871839275222246405745257275088696311157297823662689037894645226208583) 0→∀I,I=lm (Int.toNat (V4
 m n o p)*Int.toNat (V4 q r s t)%21888242871839275222246405745257275088696311157297823662689037894645226208583) 1→∀J,J=lm (Int.toNat (V4 m n o p)*Int.toNat (V4 q r s t) %
 21888242871839275222246405745257275088696311157297823662689037894645226208583) 2→∀L,L=lm (Int.toNat (V4 m n o p)*Int.toNat (V4 q r s t)%21888242871839275222246405745257275088696311157297823662689037894645226208583) 3→∀M,M=
 IntKind.wrap IntKind.i64 (((IeI.n a:Nat):Int)-1-1)→∃b:IeI,S b∧(M=((IeI.n b:Nat):Int)-1∧(a0=a0∧a1=a1∧a2=a2∧a3=a3)∧(b0=b0∧b1=b1∧b2=b2∧b3=b3)∧H=IeI.z0 b∧I=IeI.z1 b∧J=IeI.z2 b
 ∧L=IeI.z3 b)∧IeI.n b<IeI.n a))∧((C==1)=false→∀N,N=IntKind.wrap IntKind.i64 (((IeI.n a:Nat):Int)-1-1)→∃c:IeI,S c∧(N=((IeI.n c:Nat):Int)-1∧(a0=a0∧a1=a1∧a2=a2∧a3=a3)∧(b0=b0∧b1=
 b1∧b2=b2∧b3=b3)∧u=IeI.z0 c∧v=IeI.z1 c∧w=IeI.z2 c∧x=IeI.z3 c)∧IeI.n c<IeI.n a))))∧(decide (((IeI.n a:Nat):Int)-1≥0)=false→∀D,D=IeI.z0 a→∀E,E=IeI.z1 a→∀F,F=IeI.z2 a→∀G,G=IeI.z3
 a→K (.agg [.int .u64 (.sym D),.int .u64 (.sym E),.int .u64 (.sym F),.int .u64 (.sym G)]) (memL [(513,⟨false,.cells [.int .u64 (.sym a0),.int .u64 (.sym a1),.int .u64 (.sym a2),.int .u64 (.sym a3)]⟩),(521,⟨false,.cells [.int
 .u64 (.sym b0),.int .u64 (.sym b1),.int .u64 (.sym b2),.int .u64 (.sym b3)]⟩),(529,⟨false,.cells [.int .u64 (.sym D),.int .u64 (.sym E),.int .u64 (.sym F),.int .u64 (.sym G)]⟩),(545,⟨false,.cells [.int .u64 (.sym (IeI.z0 a)),
 .int .u64 (.sym (IeI.z1 a)),.int .u64 (.sym (IeI.z2 a)),.int .u64 (.sym (IeI.z3 a))]⟩)]))):=by kernel_rfl
theorem pw_walk {A E:Nat} {a0 a1 a2 a3 b0 b1 b2 b3:Int} {K:SV→Mem→Prop} (ha:Ws a0 a1 a2 a3 A) (hb:Ws b0 b1 b2 b3 E)
  (hK:∀m,K (ag4 (lm (A ^ E%qN) 0) (lm (A ^ E%qN) 1) (lm (A ^ E%qN) 2) (lm (A ^ E%qN) 3)) m):
  execF cxPw (uPw fun i=>i.n≤256∧El i.z0 i.z1 i.z2 i.z3 (A ^ (E / 2 ^ i.n)%qN)) Tryz.f139 64 [ag4 a0 a1 a2 a3,ag4 b0 b1 b2 b3] (memL []) K:=by
 rw[vc_pw,←qN_eq]
 have va:=ha.val
 have vb:=hb.val
 have wa:=ha.wd
 have wb:=hb.wd
 have e256:E / 2 ^ 256=0:=Nat.div_eq_of_lt hb.lt
 refine ⟨⟨⟨256,1,0,0,0⟩,⟨Nat.le_refl _,?_⟩,show (255:Int)=((256:Nat):Int)-1 by decide,⟨rfl,rfl,rfl,rfl⟩,⟨rfl,rfl,rfl,rfl⟩,rfl,rfl,rfl,rfl⟩,?_⟩
 ·show El 1 0 0 0 (A ^ (E / 2 ^ 256)%qN)
  rw[e256,Nat.pow_zero]
  exact ⟨by decide,by decide,by decide,by decide,by decide⟩
 rintro ⟨n,z0,z1,z2,z3⟩ ⟨hn,hz⟩
 dsimp only at hn hz ⊢
 have vz:=hz.val
 refine ⟨fun h=> ?_,fun h=> ?_⟩
 ·simp only[decide_eq_true_eq]at h
  obtain ⟨p,rfl⟩:∃p,n=p+1:=⟨n-1,by omega⟩
  rw[show (((p+1:Nat):Int)-1)=(p:Int) by omega]
  have eh:E / 2 ^ p=2*(E / 2 ^ (p+1))+E / 2 ^ p%2:=by
   rw[Nat.pow_succ,←Nat.div_div_eq_div_mul]
   omega
  have sq:A ^ (E / 2 ^ (p+1))%qN*(A ^ (E / 2 ^ (p+1))%qN)%qN=A ^ (2*(E / 2 ^ (p+1)))%qN:=by
   rw[←Nat.mul_mod,←Nat.pow_add,Nat.two_mul]
  rintro _ rfl _ rfl _ rfl _ rfl _ rfl _ rfl _ rfl _ rfl
  refine ⟨⟨hz.wd,hz.wd⟩,?_⟩
  rw[vz,Int.toNat_natCast,sq]
  rintro _ rfl _ rfl _ rfl _ rfl x14 h14 x15 h15 x16 h16 x17 h17
  rw[h14,h15,h16,h17]
  refine ⟨⟨wb,by omega,by omega⟩,?_⟩
  rw[vb,Int.toNat_natCast,Int.toNat_natCast]
  intro x18 h18
  refine ⟨fun hb=> ?_,fun hb=> ?_⟩
  ·have hb:x18=1:=by simpa using hb
   rintro _ rfl _ rfl _ rfl _ rfl x23 h23 x24 h24 x25 h25 x26 h26
   rw[h23,h24,h25,h26]
   refine ⟨⟨⟨lm_wd _ _,lm_wd _ _,lm_wd _ _,lm_wd _ _⟩,wa⟩,?_⟩
   rw[Vq,va,Int.toNat_natCast,Int.toNat_natCast,Nat.mod_mul_mod,←Nat.pow_succ]
   rintro _ rfl _ rfl _ rfl _ rfl x31 h31
   rw[wrap64 (by omega) (by omega)]at h31
   refine ⟨⟨p,_,_,_,_⟩,⟨by simp only;omega,?_⟩,⟨by simp only;omega,⟨rfl,rfl,rfl,rfl⟩,⟨rfl,rfl,rfl,rfl⟩,rfl,rfl,rfl,rfl⟩,by simp only;omega⟩
   show El _ _ _ _ (A ^ (E / 2 ^ p)%qN)
   rw[eh,show E / 2 ^ p%2=1 by omega]
   exact El.of (Nat.mod_lt _ (by decide))
  ·have hb:¬x18=1:=by simpa using hb
   intro x33 h33
   rw[wrap64 (by omega) (by omega)]at h33
   refine ⟨⟨p,_,_,_,_⟩,⟨by simp only;omega,?_⟩,⟨by simp only;omega,⟨rfl,rfl,rfl,rfl⟩,⟨rfl,rfl,rfl,rfl⟩,rfl,rfl,rfl,rfl⟩,by simp only;omega⟩
   show El _ _ _ _ (A ^ (E / 2 ^ p)%qN)
   rw[eh,show E / 2 ^ p%2=0 by omega]
   exact El.of (Nat.mod_lt _ (by decide))
 ·simp only[decide_eq_false_iff_not]at h
  have hn0:n=0:=by omega
  subst hn0
  rw[Nat.pow_zero,Nat.div_one]at hz
  obtain ⟨rfl,rfl,rfl,rfl,_⟩:=hz
  rintro _ rfl _ rfl _ rfl _ rfl
  exact hK _
def rPw:R0:=fun args l=>
 match args,l with
 | [.agg [.int .u64 (.sym a0),.int .u64 (.sym a1),.int .u64 (.sym a2),.int .u64 (.sym a3)],.agg [.int .u64 (.sym b0),.int .u64 (.sym b1),.int .u64 (.sym b2),.int .u64 (.sym b3)]],[]=>some (some ((Wd a0∧Wd a1∧Wd a2∧Wd a3)∧(Wd b0∧Wd b1∧Wd b2∧Wd b3)),ag4 (lm (pw qN 256 (V4 a0 a1 a2 a3).toNat (V4 b0 b1 b2 b3).toNat) 0) (lm (pw qN 256 (V4 a0 a1 a2 a3).toNat (V4 b0 b1 b2 b3).toNat) 1) (lm (pw qN 256 (V4 a0 a1 a2 a3).toNat (V4 b0 b1 b2 b3).toNat) 2) (lm (pw qN 256 (V4 a0 a1 a2 a3).toNat (V4 b0 b1 b2 b3).toNat) 3))
 | _,_=>none
theorem pwr_ok (args:List SV) (l:List (Nat×Reg)) (p:Ob) (v:SV) (h:rPw args l=some (p,v)) (hp:p.ok):∃U,execF cxPw U Tryz.f139 64 args (memL l) fun v' _=>v'=v:=by
 unfold rPw at h
 split at h
 ·rename_i a0 a1 a2 a3 b0 b1 b2 b3
  simp only[Option.some.injEq,Prod.mk.injEq]at h
  obtain ⟨rfl,rfl⟩:=h
  have hp:(Wd a0∧Wd a1∧Wd a2∧Wd a3)∧(Wd b0∧Wd b1∧Wd b2∧Wd b3):=hp
  have A:=ws_of hp.1.1 hp.1.2.1 hp.1.2.2.1 hp.1.2.2.2
  have B:=ws_of hp.2.1 hp.2.2.1 hp.2.2.2.1 hp.2.2.2.2
  rw[pw_eq B.lt]
  exact ⟨_,pw_walk A B fun _=>rfl⟩
 ·cases h
def cPw:Rd Tryz.prog:=mkR mixed 139 Tryz.func139 (by decide) (by kernel_rfl) [] [.num,.num] rPw pwr_ok
def cxSb:Cx Tryz.prog:= { rds:= [cSm,cPP],efs:= [],eqs:= [] }
theorem vc_sbn (a0 a1 a2 a3 b0 b1 b2 b3:Int) (K:SV→Mem→Prop):(execF cxSb u9 Tryz.f42 64 [ag4 a0 a1 a2 a3,ag4 b0 b1 b2 b3] (memL []) K)=(∀a,a=a0→∀b,b=a1→∀c,c=a2→∀d,d=a3→∀e,e=b0→∀f,f=b1→∀g,g=
 b2→∀h,h=b3→((((Wd a∧Wd b∧Wd c∧Wd d)∧(Wd e∧Wd f∧Wd g∧Wd h)∧Wd (4332616871279656263:Int)∧Wd (10917124144477883021:Int)∧Wd (13281191951274694749:Int)∧Wd (3486998266802970665:Int))∧V4 a b c d <
 21888242871839275222246405745257275088696311157297823662689037894645226208583∧V4 e f g h<21888242871839275222246405745257275088696311157297823662689037894645226208583)∧∀i,i=lm (Int.toNat ((V4 a b c d-V4 e f g h) %
 21888242871839275222246405745257275088696311157297823662689037894645226208583)) 0→∀j,j=lm (Int.toNat ((V4 a b c d-V4 e f g h)%21888242871839275222246405745257275088696311157297823662689037894645226208583)) 1→∀k,k=lm
 (Int.toNat ((V4 a b c d-V4 e f g h)%21888242871839275222246405745257275088696311157297823662689037894645226208583)) 2→∀l,l=lm (Int.toNat ((V4 a b c d-V4 e f g h) %
 21888242871839275222246405745257275088696311157297823662689037894645226208583)) 3→K (.agg [.int .u64 (.sym i),.int .u64 (.sym j),.int .u64 (.sym k),.int .u64 (.sym l)]) (memL [(513,⟨false,.cells [.int .u64 (.sym a0),.int .u64 (.sym
 a1),.int .u64 (.sym a2),.int .u64 (.sym a3)]⟩),(521,⟨false,.cells [.int .u64 (.sym b0),.int .u64 (.sym b1),.int .u64 (.sym b2),.int .u64 (.sym b3)]⟩),(529,⟨false,.cells [.int .u64 (.sym i),.int .u64 (.sym j),.int .u64 (.sym
 k),.int .u64 (.sym l)]⟩)]))):=by kernel_rfl
theorem sub_int {A B:Nat} (hB:B<qN):(((A:Int)-(B:Int))%(qN:Int)).toNat=(A+(qN-B))%qN:=by
 rw[show (A:Int)-(B:Int)=((A+(qN-B):Nat):Int)+(qN:Int)*(-1) by omega,Int.add_mul_emod_self_left]
 omega
def rSb:R0:=fun args l=>
 match args,l with
 | [.agg [.int .u64 (.sym a0),.int .u64 (.sym a1),.int .u64 (.sym a2),.int .u64 (.sym a3)],.agg [.int .u64 (.sym b0),.int .u64 (.sym b1),.int .u64 (.sym b2),.int .u64 (.sym b3)]],[]=>some (some (((Wd a0∧Wd a1∧Wd a2∧Wd a3)∧(Wd b0∧Wd b1∧Wd b2∧Wd b3))∧V4 a0 a1 a2 a3<qN∧V4 b0 b1 b2 b3<qN),ag4 (lm (((V4 a0 a1 a2 a3).toNat+(qN-(V4 b0 b1 b2 b3).toNat))%qN) 0) (lm (((V4 a0 a1 a2 a3).toNat+(qN-(V4 b0 b1 b2 b3).toNat))%qN) 1) (lm (((V4 a0 a1 a2 a3).toNat+(qN-(V4 b0 b1 b2 b3).toNat))%qN) 2) (lm (((V4 a0 a1 a2 a3).toNat+(qN-(V4 b0 b1 b2 b3).toNat))%qN) 3))
 | _,_=>none
theorem sbn_ok (args:List SV) (l:List (Nat×Reg)) (p:Ob) (v:SV) (h:rSb args l=some (p,v)) (hp:p.ok):∃U,execF cxSb U Tryz.f42 64 args (memL l) fun v' _=>v'=v:=by
 unfold rSb at h
 split at h
 ·rename_i a0 a1 a2 a3 b0 b1 b2 b3
  simp only[Option.some.injEq,Prod.mk.injEq]at h
  obtain ⟨rfl,rfl⟩:=h
  have hp:((Wd a0∧Wd a1∧Wd a2∧Wd a3)∧(Wd b0∧Wd b1∧Wd b2∧Wd b3))∧V4 a0 a1 a2 a3<qN∧V4 b0 b1 b2 b3<qN:=hp
  obtain ⟨⟨ha,hb⟩,hA,hB⟩:=hp
  have A:=ws_of ha.1 ha.2.1 ha.2.2.1 ha.2.2.2
  have B:=ws_of hb.1 hb.2.1 hb.2.2.1 hb.2.2.2
  refine ⟨u9,?_⟩
  have:=vc_sbn a0 a1 a2 a3 b0 b1 b2 b3 fun v' _=>v'=ag4 (lm (((V4 a0 a1 a2 a3).toNat+(qN-(V4 b0 b1 b2 b3).toNat))%qN) 0) (lm (((V4 a0 a1 a2 a3).toNat+(qN-(V4 b0 b1 b2 b3).toNat))%qN) 1) (lm (((V4 a0 a1 a2 a3).toNat+(qN-(V4 b0 b1 b2 b3).toNat))%qN) 2) (lm (((V4 a0 a1 a2 a3).toNat+(qN-(V4 b0 b1 b2 b3).toNat))%qN) 3)
  unfold ag4 at this
  refine this.mpr ?_
  clear this
  intro s1_0 ks1_0 s1_1 ks1_1 s1_2 ks1_2 s1_3 ks1_3 s1_4 ks1_4 s1_5 ks1_5 s1_6 ks1_6 s1_7 ks1_7;subst s1_0 s1_1 s1_2 s1_3 s1_4 s1_5 s1_6 s1_7
  refine ⟨⟨⟨ha,hb,wdq0,wdq1,wdq2,wdq3⟩,hA,hB⟩,?_⟩
  have e:=sub_int (A:=(V4 a0 a1 a2 a3).toNat) (B:=(V4 b0 b1 b2 b3).toNat) (by have:=Ws.val B;omega)
  rw[←Ws.val A,←Ws.val B]at e
  rw[show (((V4 a0 a1 a2 a3)-(V4 b0 b1 b2 b3))%21888242871839275222246405745257275088696311157297823662689037894645226208583).toNat=_ from e]
  rintro _ rfl _ rfl _ rfl _ rfl
  rfl
 ·cases h
def cSb:Rd Tryz.prog:=mkR mixed 42 Tryz.func42 (by decide) (by kernel_rfl) [] [.num,.num] rSb sbn_ok
def cxHd:Cx Tryz.prog:= { rds:= [cWs],efs:= [],eqs:= [] }
theorem vc_hd (a0 a1 a2 a3 b0 b1 b2 b3:Int) (K:SV→Mem→Prop):(execF cxHd u9 Tryz.f99 64 [ag4 a0 a1 a2 a3,ag4 b0 b1 b2 b3] (memL []) K)=(∀m,m=Int.tmod a0 (2:Int)→((m==1)=true→∀a,a=a0→∀b,b=a1→∀c,c=a2
 →∀d,d=a3→∀e,e=b0→∀f,f=b1→∀g,g=b2→∀h,h=b3→(((Wd a∧Wd b∧Wd c∧Wd d)∧Wd e∧Wd f∧Wd g∧Wd h)∧∀E,E=shrv .u64 (lm (w256 (V4 a b c d+V4 e f g h)) 0) 1→∀F,F=shlv .u64 (lm (w256 (V4 a b c d +
 V4 e f g h)) 1) 63→∀i,i=IntKind.wrap IntKind.u64 (E+F)→∀G,G=shrv .u64 (lm (w256 (V4 a b c d+V4 e f g h)) 1) 1→∀H,H=shlv .u64 (lm (w256 (V4 a b c d+V4 e f g h)) 2) 63→∀j,j=IntKind.wrap IntKind.u64 (G+H)→∀
 I,I=shrv .u64 (lm (w256 (V4 a b c d+V4 e f g h)) 2) 1→∀J,J=shlv .u64 (lm (w256 (V4 a b c d+V4 e f g h)) 3) 63→∀k,k=IntKind.wrap IntKind.u64 (I+J)→∀l,l=shrv .u64 (lm (w256 (V4 a b c d+V4 e f g h)) 3) 1→(decide
 (115792089237316195423570985008687907853269984665640564039457584007913129639936≤V4 a b c d+V4 e f g h)=true→∀n,n=IntKind.wrap IntKind.u64 (l+9223372036854775808)→∀o,o=i→∀p,p=j→∀q,q=k→∀r,r=n→K (.agg
 [.int .u64 (.sym o),.int .u64 (.sym p),.int .u64 (.sym q),.int .u64 (.sym r)]) (memL [(513,⟨false,.cells [.int .u64 (.sym i),.int .u64 (.sym j),.int .u64 (.sym k),.int .u64 (.sym n)]⟩),(521,⟨false,.cells [.int .u64 (.sym b0),
 .int .u64 (.sym b1),.int .u64 (.sym b2),.int .u64 (.sym b3)]⟩),(529,⟨false,.cells [.int .u64 (.sym o),.int .u64 (.sym p),.int .u64 (.sym q),.int .u64 (.sym r)]⟩)]))∧(decide
 (115792089237316195423570985008687907853269984665640564039457584007913129639936≤V4 a b c d+V4 e f g h)=false→∀s,s=i→∀t,t=j→∀u,u=k→∀v,v=l→K (.agg [.int .u64 (.sym s),.int .u64 (.sym t),.int .u64 (.sym u),
 .int .u64 (.sym v)]) (memL [(513,⟨false,.cells [.int .u64 (.sym i),.int .u64 (.sym j),.int .u64 (.sym k),.int .u64 (.sym l)]⟩),(521,⟨false,.cells [.int .u64 (.sym b0),.int .u64 (.sym b1),.int .u64 (.sym b2),.int .u64 (.sym
 b3)]⟩),(529,⟨false,.cells [.int .u64 (.sym s),.int .u64 (.sym t),.int .u64 (.sym u),.int .u64 (.sym v)]⟩)]))))∧((m==1)=false→∀L,L=shrv .u64 a0 1→∀M,M=shlv .u64 a1 63→∀w,w=IntKind.wrap IntKind.u64 (L+M)→∀
 N,N=shrv .u64 a1 1→∀O,O=shlv .u64 a2 63→∀x,x=IntKind.wrap IntKind.u64 (N+O)→∀Q,Q=shrv .u64 a2 1→∀R,R=shlv .u64 a3 63→∀y,y=IntKind.wrap IntKind.u64 (Q+R)→∀z,z=shrv .u64 a3 1→∀A,A=w→∀B,B=
 x→∀C,C=y→∀D,D=z→K (.agg [.int .u64 (.sym A),.int .u64 (.sym B),.int .u64 (.sym C),.int .u64 (.sym D)]) (memL [(513,⟨false,.cells [.int .u64 (.sym w),.int .u64 (.sym x),.int .u64 (.sym y),.int .u64 (.sym z)]⟩),(521,
 ⟨false,.cells [.int .u64 (.sym b0),.int .u64 (.sym b1),.int .u64 (.sym b2),.int .u64 (.sym b3)]⟩),(529,⟨false,.cells [.int .u64 (.sym A),.int .u64 (.sym B),.int .u64 (.sym C),.int .u64 (.sym D)]⟩)]))):=by kernel_rfl
theorem sr1 {z:Int} (hz:Wd z):shrv .u64 z 1=z / 2:=by rw[shr64 hz.1 (by omega)];rfl
theorem sl63 (z:Int):shlv .u64 z 63=z*9223372036854775808%18446744073709551616:=by
 unfold shlv
 rw[wu64,show min 63 IntKind.u64.bits=63 by simp[IntKind.bits]]
 rfl
theorem w256_int {x:Int}:((w256 x:Nat):Int)=x%115792089237316195423570985008687907853269984665640564039457584007913129639936:=by unfold w256;omega
theorem hv_words {a0 a1 a2 a3 y0 y1 y2 y3 y4 y5 y6 y7 y8 y9:Int} (h0:Wd a0) (h1:Wd a1) (h2:Wd a2) (h3:Wd a3) (g0:y0=shrv .u64 a0 1) (g1:y1=shlv .u64 a1 63) (g2:y2=IntKind.u64.wrap (y0+y1))
  (g3:y3=shrv .u64 a1 1) (g4:y4=shlv .u64 a2 63) (g5:y5=IntKind.u64.wrap (y3+y4)) (g6:y6=shrv .u64 a2 1) (g7:y7=shlv .u64 a3 63) (g8:y8=IntKind.u64.wrap (y6+y7)) (g9:y9=shrv .u64 a3 1):
  (Wd y2∧Wd y5∧Wd y8∧0≤y9∧y9<9223372036854775808)∧V4 y2 y5 y8 y9=V4 a0 a1 a2 a3 / 2:=by
 rw[sr1 h0]at g0
 rw[sr1 h1]at g3
 rw[sr1 h2]at g6
 rw[sr1 h3]at g9
 rw[sl63]at g1 g4 g7
 rw[wu64]at g2 g5 g8
 unfold Wd V4 at *
 omega
def rHd:R0:=fun args l=>
 match args,l with
 | [.agg [.int .u64 (.sym a0),.int .u64 (.sym a1),.int .u64 (.sym a2),.int .u64 (.sym a3)],.agg [.int .u64 (.sym b0),.int .u64 (.sym b1),.int .u64 (.sym b2),.int .u64 (.sym b3)]],[]=>some (some ((Wd a0∧Wd a1∧Wd a2∧Wd a3)∧(Wd b0∧Wd b1∧Wd b2∧Wd b3)),ag4 (lm (hvm (V4 a0 a1 a2 a3).toNat (V4 b0 b1 b2 b3).toNat) 0) (lm (hvm (V4 a0 a1 a2 a3).toNat (V4 b0 b1 b2 b3).toNat) 1) (lm (hvm (V4 a0 a1 a2 a3).toNat (V4 b0 b1 b2 b3).toNat) 2) (lm (hvm (V4 a0 a1 a2 a3).toNat (V4 b0 b1 b2 b3).toNat) 3))
 | _,_=>none
theorem hd_ok (args:List SV) (l:List (Nat×Reg)) (p:Ob) (v:SV) (h:rHd args l=some (p,v)) (hp:p.ok):∃U,execF cxHd U Tryz.f99 64 args (memL l) fun v' _=>v'=v:=by
 unfold rHd at h
 split at h
 ·rename_i a0 a1 a2 a3 b0 b1 b2 b3
  simp only[Option.some.injEq,Prod.mk.injEq]at h
  obtain ⟨rfl,rfl⟩:=h
  have hp:(Wd a0∧Wd a1∧Wd a2∧Wd a3)∧(Wd b0∧Wd b1∧Wd b2∧Wd b3):=hp
  obtain ⟨ha,hb⟩:=hp
  have A:=ws_of ha.1 ha.2.1 ha.2.2.1 ha.2.2.2
  have B:=ws_of hb.1 hb.2.1 hb.2.2.1 hb.2.2.2
  refine ⟨u9,?_⟩
  have:=vc_hd a0 a1 a2 a3 b0 b1 b2 b3 fun v' _=>v'=ag4 (lm (hvm (V4 a0 a1 a2 a3).toNat (V4 b0 b1 b2 b3).toNat) 0) (lm (hvm (V4 a0 a1 a2 a3).toNat (V4 b0 b1 b2 b3).toNat) 1) (lm (hvm (V4 a0 a1 a2 a3).toNat (V4 b0 b1 b2 b3).toNat) 2) (lm (hvm (V4 a0 a1 a2 a3).toNat (V4 b0 b1 b2 b3).toNat) 3)
  unfold ag4 at this
  refine this.mpr ?_
  clear this
  have nA:=V4_nonneg ha.1 ha.2.1 ha.2.2.1 ha.2.2.2
  have nB:=V4_nonneg hb.1 hb.2.1 hb.2.2.1 hb.2.2.2
  have lA:=V4_lt ha.1 ha.2.1 ha.2.2.1 ha.2.2.2
  have lB:=V4_lt hb.1 hb.2.1 hb.2.2.1 hb.2.2.2
  intro x0 h0
  rw[Int.tmod_eq_emod_of_nonneg ha.1.1]at h0
  have par:x0=(V4 a0 a1 a2 a3).toNat%2:=by unfold V4 at nA ⊢;omega
  refine ⟨fun hc=> ?_,fun hc=> ?_⟩
  ·have hc:x0=1:=by simpa using hc
   intro s2_0 ks2_0 s2_1 ks2_1 s2_2 ks2_2 s2_3 ks2_3 s2_4 ks2_4 s2_5 ks2_5 s2_6 ks2_6 s2_7 ks2_7;subst s2_0 s2_1 s2_2 s2_3 s2_4 s2_5 s2_6 s2_7
   refine ⟨⟨ha,hb⟩,?_⟩
   have W:=lm_wd (w256 (V4 a0 a1 a2 a3+V4 b0 b1 b2 b3))
   have eS:=lm_val (x:=w256 (V4 a0 a1 a2 a3+V4 b0 b1 b2 b3)) (w256_lt _)
   generalize hS:w256 (V4 a0 a1 a2 a3+V4 b0 b1 b2 b3)=S at W eS ⊢
   have hS':(S:Int)=(V4 a0 a1 a2 a3+V4 b0 b1 b2 b3)%115792089237316195423570985008687907853269984665640564039457584007913129639936:=by rw[←hS];exact w256_int
   intro x9 h9 x10 h10 x11 h11 x12 h12 x13 h13 x14 h14 x15 h15 x16 h16 x17 h17 x18 h18
   obtain ⟨w,e⟩:=hv_words (W 0) (W 1) (W 2) (W 3) h9 h10 h11 h12 h13 h14 h15 h16 h17 h18
   rw[eS]at e
   refine ⟨fun hd=> ?_,fun hd=> ?_⟩
   ·have hd:=of_decide_eq_true hd
    intro x19 h19
    rw[wu64]at h19
    intro y0 k0 y1 k1 y2 k2 y3 k3
    obtain ⟨q0,q1,q2,q3⟩:=lm_of w.1 w.2.1 w.2.2.1 (d:=x19) (by unfold Wd;omega) (x:=hvm (V4 a0 a1 a2 a3).toNat (V4 b0 b1 b2 b3).toNat) (by rw[show V4 x11 x14 x17 x19=V4 x11 x14 x17 x18+57896044618658097711785492504343953926634992332820282019728792003956564819968 by unfold V4;omega,e];unfold hvm;rw[if_pos (by omega)];omega)
    rw[k0,k1,k2,k3,←q0,←q1,←q2,←q3]
   ·have hd:=of_decide_eq_false hd
    intro y0 k0 y1 k1 y2 k2 y3 k3
    obtain ⟨q0,q1,q2,q3⟩:=lm_of w.1 w.2.1 w.2.2.1 (d:=x18) (by unfold Wd;omega) (x:=hvm (V4 a0 a1 a2 a3).toNat (V4 b0 b1 b2 b3).toNat) (by rw[e];unfold hvm;rw[if_pos (by omega)];omega)
    rw[k0,k1,k2,k3,←q0,←q1,←q2,←q3]
  ·have hc:¬x0=1:=by simpa using hc
   intro x28 h28 x29 h29 x30 h30 x31 h31 x32 h32 x33 h33 x34 h34 x35 h35 x36 h36 x37 h37
   obtain ⟨w,e⟩:=hv_words ha.1 ha.2.1 ha.2.2.1 ha.2.2.2 h28 h29 h30 h31 h32 h33 h34 h35 h36 h37
   intro y0 k0 y1 k1 y2 k2 y3 k3
   obtain ⟨q0,q1,q2,q3⟩:=lm_of w.1 w.2.1 w.2.2.1 (d:=x37) (by unfold Wd;omega) (x:=hvm (V4 a0 a1 a2 a3).toNat (V4 b0 b1 b2 b3).toNat) (by rw[e];unfold hvm;rw[if_neg (by omega)];omega)
   rw[k0,k1,k2,k3,←q0,←q1,←q2,←q3]
 ·cases h
def cHd:Rd Tryz.prog:=mkR mixed 99 Tryz.func99 (by decide) (by kernel_rfl) [] [.num,.num] rHd hd_ok
end Go.Sx
namespace Go.Sx
open Go Go.Proofs
set_option maxRecDepth 100000
theorem run_eq23 (n:Nat) (a b c d a' b' c' d':Int) (w:World):(Op.equalIn (n+2) 23 (.agg #[.int .u64 a,.int .u64 b,.int .u64 c,.int .u64 d]) (.agg #[.int .u64 a',.int .u64 b',.int .u64 c',.int .u64 d'])).run Tryz.prog w=
  .ok (a==a' && b==b' && c==c' && d==d') w:=by
 have u3:=Tryz.underlying22
 have a3:=Tryz.isAgg22
 have z3:=Tryz.sizeOf22
 rw[show n+2=n+1+1 from rfl,Op.equalIn]
 simp only[Sem.run_bind,run_underlying Tryz.underlying23,Result.andThen_ok]
 simp only[Std.Legacy.Range.forIn_eq_forIn_range',Std.Legacy.Range.size,Nat.sub_zero,Nat.add_sub_cancel,Nat.div_one,List.range'_succ,List.range'_zero,List.forIn_cons,List.forIn_nil]
 go_simp
 by_cases h1:a=a'<;>by_cases h2:b=b'<;>by_cases h3:c=c'<;>by_cases h4:d=d'<;>simp[h1,h2,h3,h4]
theorem run_eq23' (a b c d a' b' c' d':Int) (w:World):(Op.equal 23 (.agg #[.int .u64 a,.int .u64 b,.int .u64 c,.int .u64 d]) (.agg #[.int .u64 a',.int .u64 b',.int .u64 c',.int .u64 d'])).run Tryz.prog w=
  .ok (a==a' && b==b' && c==c' && d==d') w:=run_eq23 9998 a b c d a' b' c' d' w
def eq23:Eqs Tryz.prog where
 t:=23
 n:=4
 guard:=by kernel_rfl
 sound:=fun xs ys w hx hy=>by
  match xs,ys,hx,hy with
  | [a,b,c,d],[a',b',c',d'],_,_=>
   have:=run_eq23' a b c d a' b' c' d' w
   refine this.trans ?_
   congr 1
   by_cases h1:a=a'<;>by_cases h2:b=b'<;>by_cases h3:c=c'<;>by_cases h4:d=d'<;>simp[h1,h2,h3,h4]
theorem run_eq27 (a b c d e f g h a' b' c' d' e' f' g' h':Int) (w:World):(Op.equal 35 (.agg #[.int .u64 a,.int .u64 b,.int .u64 c,.int .u64 d,.int .u64 e,.int .u64 f,.int .u64 g,.int .u64 h]) (.agg #[.int .u64 a',.int .u64 b',.int .u64 c',.int .u64 d',.int .u64 e',.int .u64 f',.int .u64 g',.int .u64 h'])).run Tryz.prog w=
  .ok ((a==a' && b==b' && c==c' && d==d') && (e==e' && f==f' && g==g' && h==h')) w:=by
 have z4:=Tryz.sizeOf23
 have a4:=Tryz.isAgg23
 unfold Op.equal Op.maxDepth
 rw[show (10000:Nat)=9999+1 from rfl,run_equalIn_struct w 9999 35 _ _ (by kernel_rfl) (by kernel_rfl)]
 rw[show (Program.fieldsOf Tryz.prog 35).toList= [⟨ "X",23,0,false, "", "",0⟩,⟨ "Y",23,4,false, "", "",32⟩] by kernel_rfl]
 simp only[Op.eqFields]
 go_simp
 rw[show (9999:Nat)=9997+2 from rfl,run_eq23]
 have e2:=run_eq23 9997 e f g h e' f' g' h' w
 rw[show (9997:Nat)+2=9999 from rfl]at e2
 simp only[Result.andThen_ok]
 by_cases h1:a=a'<;>by_cases h2:b=b'<;>by_cases h3:c=c'<;>by_cases h4:d=d'<;>simp[h1,h2,h3,h4,e2]
 by_cases h5:e=e'<;>by_cases h6:f=f'<;>by_cases h7:g=g'<;>by_cases h8:h=h'<;>simp[h5,h6,h7,h8]
def eq27:Eqs Tryz.prog where
 t:=35
 n:=8
 guard:=by kernel_rfl
 sound:=fun xs ys w hx hy=>by
  match xs,ys,hx,hy with
  | [a,b,c,d,e,f,g,h],[a',b',c',d',e',f',g',h'],_,_=>
   have:=run_eq27 a b c d e f g h a' b' c' d' e' f' g' h' w
   refine this.trans ?_
   congr 1
   simp only[List.cons.injEq,and_true]
   by_cases h1:a=a'<;>by_cases h2:b=b'<;>by_cases h3:c=c'<;>by_cases h4:d=d'<;>by_cases h5:e=e'<;>by_cases h6:f=f'<;>by_cases h7:g=g'<;>by_cases h8:h=h'<;>simp[h1,h2,h3,h4,h5,h6,h7,h8]
theorem run_eq43 (a b c d e f g h a' b' c' d' e' f' g' h':Int) (w:World):(Op.equal 25 (.agg #[.int .u64 a,.int .u64 b,.int .u64 c,.int .u64 d,.int .u64 e,.int .u64 f,.int .u64 g,.int .u64 h]) (.agg #[.int .u64 a',.int .u64 b',.int .u64 c',.int .u64 d',.int .u64 e',.int .u64 f',.int .u64 g',.int .u64 h'])).run Tryz.prog w=
  .ok ((a==a' && b==b' && c==c' && d==d') && (e==e' && f==f' && g==g' && h==h')) w:=by
 have z4:=Tryz.sizeOf23
 have a4:=Tryz.isAgg23
 unfold Op.equal Op.maxDepth
 rw[show (10000:Nat)=9999+1 from rfl,run_equalIn_struct w 9999 25 _ _ (by kernel_rfl) (by kernel_rfl)]
 rw[show (Program.fieldsOf Tryz.prog 25).toList= [⟨ "A0",23,0,false, "", "",0⟩,⟨ "A1",23,4,false, "", "",32⟩] by kernel_rfl]
 simp only[Op.eqFields]
 go_simp
 rw[show (9999:Nat)=9997+2 from rfl,run_eq23]
 have e2:=run_eq23 9997 e f g h e' f' g' h' w
 rw[show (9997:Nat)+2=9999 from rfl]at e2
 simp only[Result.andThen_ok]
 by_cases h1:a=a'<;>by_cases h2:b=b'<;>by_cases h3:c=c'<;>by_cases h4:d=d'<;>simp[h1,h2,h3,h4,e2]
 by_cases h5:e=e'<;>by_cases h6:f=f'<;>by_cases h7:g=g'<;>by_cases h8:h=h'<;>simp[h5,h6,h7,h8]
def eq43:Eqs Tryz.prog where
 t:=25
 n:=8
 guard:=by kernel_rfl
 sound:=fun xs ys w hx hy=>by
  match xs,ys,hx,hy with
  | [a,b,c,d,e,f,g,h],[a',b',c',d',e',f',g',h'],_,_=>
   have:=run_eq43 a b c d e f g h a' b' c' d' e' f' g' h' w
   refine this.trans ?_
   congr 1
   simp only[List.cons.injEq,and_true]
   by_cases h1:a=a'<;>by_cases h2:b=b'<;>by_cases h3:c=c'<;>by_cases h4:d=d'<;>by_cases h5:e=e'<;>by_cases h6:f=f'<;>by_cases h7:g=g'<;>by_cases h8:h=h'<;>simp[h1,h2,h3,h4,h5,h6,h7,h8]
end Go.Sx
namespace Go.Sx
open Go Go.Proofs Go.Num
set_option maxRecDepth 100000
def St.v4 (st:St) (r:Nat):Int:=
 match st.m.get r with
 | some ⟨_,.cells [.int _ a,.int _ b,.int _ c,.int _ d]⟩=>V4 a.val b.val c.val d.val
 | some ⟨_,.ints _ [a,b,c,d]⟩=>V4 a b c d
 | _=>0
structure ImI where
 u0:Int
 u1:Int
 u2:Int
 u3:Int
 v0:Int
 v1:Int
 v2:Int
 v3:Int
 x0:Int
 x1:Int
 x2:Int
 x3:Int
 y0:Int
 y1:Int
 y2:Int
 y3:Int
structure InI where
 u0:Int
 u1:Int
 u2:Int
 u3:Int
 x0:Int
 x1:Int
 x2:Int
 x3:Int
def liIm (S:ImI→Prop):LI where
 ι:=ImI
 keep:= [2,3,4,5,6,7,8]
 keepR:= [513,521,529]
 F:=fun i=>⟨[],[(569,⟨false,w4 i.u0 i.u1 i.u2 i.u3⟩),(577,⟨false,w4 i.v0 i.v1 i.v2 i.v3⟩),(585,⟨false,w4 i.x0 i.x1 i.x2 i.x3⟩),(593,⟨false,w4 i.y0 i.y1 i.y2 i.y3⟩)]⟩
 I:=fun _ i=>S i
 μ:=fun i=>(V4 i.u0 i.u1 i.u2 i.u3+V4 i.v0 i.v1 i.v2 i.v3).toNat
def liI1 (T:Int→Int→InI→Prop):LI where
 ι:=InI
 keep:= [2,3,4,5,6,7,8]
 keepR:= [513,521,529,577,593]
 F:=fun i=>⟨[],[(569,⟨false,w4 i.u0 i.u1 i.u2 i.u3⟩),(585,⟨false,w4 i.x0 i.x1 i.x2 i.x3⟩)]⟩
 I:=fun st i=>T (st.v4 569) (st.v4 577) i
 μ:=fun i=>(V4 i.u0 i.u1 i.u2 i.u3).toNat
def liI2 (T:Int→Int→InI→Prop):LI where
 ι:=InI
 keep:= [2,3,4,5,6,7,8]
 keepR:= [513,521,529,569,585]
 F:=fun i=>⟨[],[(577,⟨false,w4 i.u0 i.u1 i.u2 i.u3⟩),(593,⟨false,w4 i.x0 i.x1 i.x2 i.x3⟩)]⟩
 I:=fun st i=>T (st.v4 569) (st.v4 577) i
 μ:=fun i=>(V4 i.u0 i.u1 i.u2 i.u3).toNat
def uIm (S:ImI→Prop) (T R:Int→Int→InI→Prop):Nat→Lp:=fun n=>
 match n with
 | 0=> .inv (liIm S)
 | 2=> .inv (liI1 T)
 | 4=> .inv (liI2 R)
 | _=> .un 0
def cxIm:Cx Tryz.prog:= { rds:= [cHv,cHd,cLs,cWd,cSm],efs:= [],eqs:= [eq23] }
end Go.Sx
namespace Go.Sx
open Go Go.Num
def inv0 (a:Nat):Nat:=pw qN 256 a (qN-2)
theorem priN:Pri qN:=pri_q
theorem inv0_eq (a:Nat):inv0 a=a ^ (qN-2)%qN:=pw_eq (by decide)
theorem inv0_lt (a:Nat):inv0 a<qN:=by rw[inv0_eq];exact Nat.mod_lt _ (by decide)
theorem inv0_zero:inv0 0=0:=by rw[inv0_eq,Nat.zero_pow (by decide)];rfl
theorem inv0_mul {a:Nat} (h:a%qN≠0):inv0 a*a%qN=1:=by
 rw[inv0_eq,Nat.mod_mul_mod,←Nat.pow_succ,show (qN-2).succ=qN-1 by decide]
 exact fermat priN h
theorem inv0_unique {a x:Nat} (hx:x<qN) (h:x*a%qN=1):x=inv0 a:=by
 have ha:a%qN≠0:=by
  intro e
  rw[Nat.mul_mod,e,Nat.mul_zero]at h
  exact absurd h (by decide)
 have e:=inv0_mul ha
 have e1:x*a%qN*inv0 a%qN=inv0 a:=by rw[h,Nat.one_mul,Nat.mod_eq_of_lt (inv0_lt a)]
 rw[Nat.mod_mul_mod,Nat.mul_assoc,Nat.mul_comm a,Nat.mul_mod,e,Nat.mul_one,Nat.mod_mod,Nat.mod_eq_of_lt hx]at e1
 exact e1
def e4N:Nat:=5472060717959818805561601436314318772174077789324455915672259473661306552146
def rtN (a:Nat):Nat:=pw qN 256 a e4N
theorem rtN_eq (a:Nat):rtN a=a ^ e4N%qN:=pw_eq (by decide)
theorem rtN_lt (a:Nat):rtN a<qN:=by rw[rtN_eq];exact Nat.mod_lt _ (by decide)
theorem rt_gen {a k h:Nat} (e:k+k=h+1):a ^ k%qN*(a ^ k%qN)%qN=a ^ h%qN*a%qN:=by
 rw[←Nat.mul_mod,←Nat.pow_add,Nat.mod_mul_mod,←Nat.pow_succ,e]
def ppN (a:Nat):Nat:=a ^ (qN / 2)%qN
theorem rtN_sq (a:Nat):rtN a*rtN a%qN=ppN a*a%qN:=by
 rw[rtN_eq]
 exact rt_gen (by decide)
theorem qN_odd:qN%2=1:=by decide
theorem eulerN {a:Nat} (h:a%qN≠0):(J a qN=1∧ppN a=1)∨(J a qN= -1∧ppN a=qN-1):=euler_mod priN qN_odd h
def lgN (z:Nat):Int:=if z=0 then 0 else J z qN
def sqN (a:Nat):Bool:=decide (rtN a*rtN a%qN=a)
theorem neg_aux {q a z:Nat} (h:a<q) (h0:a≠0) (ho:q%2=1) (e:z+a=q*a):z%q≠a:=by
 intro e1
 have h2:z=q*(z / q)+a:=by have:=Nat.div_add_mod z q;omega
 have h3:a+a=q*(a-z / q):=by
  rw[Nat.mul_sub];omega
 have h4:q ∣ 2*a:=⟨a-z / q,by omega⟩
 have h5:Nat.Coprime q 2:=by
  have:Nat.gcd q 2=Nat.gcd 2 (q%2):=by rw[Nat.gcd_comm,Nat.gcd_rec,Nat.gcd_comm]
  show Nat.gcd q 2=1
  rw[Nat.gcd_comm,Nat.gcd_rec,ho]
  rfl
 have h6:=Nat.Coprime.dvd_of_dvd_mul_left h5 h4
 exact absurd (Nat.le_of_dvd (by omega) h6) (by omega)
theorem neg_ne {a:Nat} (h:a<qN) (h0:a≠0):(qN-1)*a%qN≠a:=neg_aux h h0 qN_odd (by rw[←Nat.succ_mul,show (qN-1).succ=qN by decide])
theorem sqN_iff {a:Nat} (h:a<qN):sqN a=true↔lgN a≠ -1:=by
 unfold sqN lgN
 rw[decide_eq_true_eq,rtN_sq]
 by_cases h0:a=0
 ·rw[h0,Nat.mul_zero,Nat.zero_mod,if_pos rfl]
  decide
 ·rw[if_neg h0]
  have hm:a%qN≠0:=by rw[Nat.mod_eq_of_lt h];exact h0
  rcases eulerN hm with ⟨e1,e2⟩ | ⟨e1,e2⟩
  ·rw[e2,Nat.one_mul,Nat.mod_eq_of_lt h]
   exact ⟨fun _=>by rw[e1];decide,fun _=>rfl⟩
  ·rw[e2]
   exact ⟨fun e=>absurd e (neg_ne h h0),fun e=>absurd e1 e⟩
theorem lgN_cases {a:Nat} (h:a<qN):lgN a=0∨lgN a=1∨lgN a= -1:=by
 unfold lgN
 by_cases h0:a=0
 ·simp[h0]
 ·rw[if_neg h0]
  exact .inr (J_sq qN_odd (by rw[Int.natAbs_natCast];exact priN.cop (by omega) h))
instance : NeZero qN:=⟨by decide⟩
def fz (a:Nat):Fin qN:=Fin.ofNat qN a
theorem fz_add (a b:Nat):fz (a+b)=fz a+fz b:=by
 apply Fin.ext
 show (a+b)%qN=(a%qN+b%qN)%qN
 rw[Nat.add_mod]
theorem fz_mul (a b:Nat):fz (a*b)=fz a*fz b:=by
 apply Fin.ext
 show (a*b)%qN=(a%qN*(b%qN))%qN
 rw[Nat.mul_mod]
theorem fz_mod (a:Nat):fz (a%qN)=fz a:=by
 apply Fin.ext
 show a%qN%qN=a%qN
 rw[Nat.mod_mod]
theorem fz_eq {a b:Nat}:fz a=fz b↔a%qN=b%qN:=⟨fun h=>congrArg Fin.val h,fun h=>Fin.ext h⟩
theorem fz_q (a:Nat):fz (qN*a)=0:=by
 apply Fin.ext
 show qN*a%qN=0%qN
 rw[Nat.mul_mod_right,Nat.zero_mod]
theorem fz_sub {a b:Nat} (h:b≤qN):fz (a+(qN-b))=fz a-fz b:=by
 have e:fz (a+(qN-b))+fz b=fz a:=by
  rw[←fz_add,Nat.add_assoc,Nat.sub_add_cancel h,fz_add,show fz qN=0 from fz_q 1]
  grobner
 rw[←e]
 grobner
theorem fz_half {x a u h w:Nat} (h1:x*a%qN=u%qN) (h2:fz (2*h)=fz x) (h3:fz (2*w)=fz u):h*a%qN=w%qN:=by
 have i:fz (inv0 2)*fz 2=1:=by
  rw[←fz_mul]
  show _=fz 1
  rw[fz_eq]
  decide +kernel
 have h1:=fz_eq.2 h1
 rw[fz_mul]at h1 h2 h3
 rw[←fz_eq,fz_mul]
 grobner
def c2N:Nat:=10944121435919637611123202872628637544348155578648911831344518947322613104291
def c3N:Nat:=8815841940592487685674414971303048083897117035520822607866
def c4N:Nat:=7296080957279758407415468581752425029565437052432607887563012631548408736189
def gN (x:Nat):Nat:=(x*(x*x%qN)%qN+3)%qN
def tN (u:Nat):Nat:=u*u%qN*4%qN
def moN (u:Nat):Nat:=(1+tN u)%qN
def leN (u:Nat):Nat:=(1+(qN-tN u))%qN
def ivN (u:Nat):Nat:=inv0 (leN u*moN u%qN)
def stN (u:Nat):Nat:=u*leN u%qN*ivN u%qN*c3N%qN
def x1N (u:Nat):Nat:=(c2N+(qN-stN u))%qN
def x2N (u:Nat):Nat:=(c2N+stN u)%qN
def vvN (u:Nat):Nat:=moN u*moN u%qN*ivN u%qN
def x3N (u:Nat):Nat:=(vvN u*vvN u%qN*c4N%qN+1)%qN
theorem fz_g (x:Nat):fz (gN x)=fz x*fz x*fz x+3:=by
 unfold gN
 rw[fz_mod,fz_add,fz_mod,fz_mul,fz_mod,fz_mul,show fz 3=3 from rfl]
 grobner
theorem tN_lt (u:Nat):tN u<qN:=Nat.mod_lt _ (by decide)
theorem stN_lt (u:Nat):stN u<qN:=Nat.mod_lt _ (by decide)
theorem gN_lt (x:Nat):gN x<qN:=Nat.mod_lt _ (by decide)
theorem fz_t (u:Nat):fz (tN u)=fz u*fz u*4:=by
 unfold tN
 rw[fz_mod,fz_mul,fz_mod,fz_mul];rfl
theorem fz_mo (u:Nat):fz (moN u)=1+fz (tN u):=by
 unfold moN
 rw[fz_mod,fz_add];rfl
theorem fz_le (u:Nat):fz (leN u)=1-fz (tN u):=by
 unfold leN
 rw[fz_mod,fz_sub (Nat.le_of_lt (tN_lt u))];rfl
theorem fz_st (u:Nat):fz (stN u)=fz u*fz (leN u)*fz (ivN u)*fz c3N:=by
 unfold stN
 rw[fz_mod,fz_mul,fz_mod,fz_mul,fz_mod,fz_mul]
theorem fz_x1 (u:Nat):fz (x1N u)=fz c2N-fz (stN u):=by
 unfold x1N
 rw[fz_mod,fz_sub (Nat.le_of_lt (stN_lt u))]
theorem fz_x2 (u:Nat):fz (x2N u)=fz c2N+fz (stN u):=by
 unfold x2N
 rw[fz_mod,fz_add]
theorem fz_vv (u:Nat):fz (vvN u)=fz (moN u)*fz (moN u)*fz (ivN u):=by
 unfold vvN
 rw[fz_mod,fz_mul,fz_mod,fz_mul]
theorem fz_x3 (u:Nat):fz (x3N u)=fz (vvN u)*fz (vvN u)*fz c4N+1:=by
 unfold x3N
 rw[fz_mod,fz_add,fz_mod,fz_mul,fz_mod,fz_mul];rfl
theorem fz_c2:4*(fz c2N*fz c2N)=1:=by
 show fz 4*(fz c2N*fz c2N)=fz 1
 rw[←fz_mul,←fz_mul,fz_eq]
 decide +kernel
theorem fz_c2':fz c2N+fz c2N= -1:=by
 have:fz c2N+fz c2N+1=0:=by
  show fz c2N+fz c2N+fz 1=fz 0
  rw[←fz_add,←fz_add,fz_eq]
  decide +kernel
 grobner
theorem fz_c3:fz c3N*fz c3N= -12:=by
 have:fz c3N*fz c3N+12=0:=by
  show fz c3N*fz c3N+fz 12=fz 0
  rw[←fz_mul,←fz_add,fz_eq]
  decide +kernel
 grobner
theorem fz_c4:3*fz c4N= -16:=by
 have:3*fz c4N+16=0:=by
  show fz 3*fz c4N+fz 16=fz 0
  rw[←fz_mul,←fz_add,fz_eq]
  decide +kernel
 grobner
theorem J_ne {a:Nat} (h:a%qN≠0):Nat.Coprime qN (a:Int).natAbs:=by rw[Int.natAbs_natCast];exact priN.cop_of h
theorem J_mod (a:Nat):J ((a%qN:Nat):Int) qN=J a qN:=by
 have e:((a%qN:Nat):Int)+(qN:Int)*((a / qN:Nat):Int)=(a:Int):=by rw[←Int.natCast_mul,←Int.natCast_add,Nat.mod_add_div]
 exact (J_period _).symm.trans (congrArg (fun z=>J z qN) e)
theorem J_mulN {a b:Nat} (ha:a%qN≠0) (hb:b%qN≠0):J ((a*b:Nat):Int) qN=J a qN*J b qN:=by
 rw[Int.natCast_mul]
 exact J_mul qN_odd (J_ne ha) (J_ne hb)
theorem J_self {a:Nat} (ha:a%qN≠0):J a qN*J a qN=1:=by
 rcases J_sq qN_odd (J_ne ha)with h | h<;>rw[h]<;>rfl
theorem lg_ne {a:Nat} (h:a<qN) (h1:lgN a= -1):a%qN≠0∧J a qN= -1:=by
 unfold lgN at h1
 by_cases h0:a=0
 ·rw[if_pos h0]at h1;exact absurd h1 (by decide)
 ·rw[if_neg h0]at h1
  exact ⟨by rw[Nat.mod_eq_of_lt h];exact h0,h1⟩
theorem mul_ne {a b:Nat} (ha:a%qN≠0) (hb:b%qN≠0):a*b%qN≠0:=by
 intro h
 have:=priN.cop_of ha
 have hd:qN ∣ a*b:=Nat.dvd_of_mod_eq_zero h
 exact hb (Nat.mod_eq_zero_of_dvd (Nat.Coprime.dvd_of_dvd_mul_left (show Nat.Coprime qN a from this) hd))
theorem three {s g1 g2 g3:Nat} (hs:s%qN≠0) (h1:g1<qN) (h2:g2<qN) (h3:g3<qN) (h:s*s*g3%qN=128*128*(g1*g2)%qN):¬(lgN g1= -1∧lgN g2= -1∧lgN g3= -1):=by
 rintro ⟨e1,e2,e3⟩
 obtain ⟨n1,j1⟩:=lg_ne h1 e1
 obtain ⟨n2,j2⟩:=lg_ne h2 e2
 obtain ⟨n3,j3⟩:=lg_ne h3 e3
 have n128:128%qN≠0:=by decide
 have l:J ((s*s*g3:Nat):Int) qN= -1:=by rw[J_mulN (mul_ne hs hs) n3,J_mulN hs hs,J_self hs,j3];rfl
 have r:J ((128*128*(g1*g2):Nat):Int) qN=1:=by rw[J_mulN (mul_ne n128 n128) (mul_ne n1 n2),J_mulN n128 n128,J_self n128,J_mulN n1 n2,j1,j2];rfl
 rw[←J_mod,h,J_mod,r]at l
 exact absurd l (by decide)
theorem fz_iv {u:Nat} (h:leN u*moN u%qN≠0):fz (ivN u)*(fz (leN u)*fz (moN u))=1:=by
 unfold ivN
 rw[←fz_mul,←fz_mod (leN u*moN u),←fz_mul]
 show _=fz 1
 rw[fz_eq,inv0_mul (by rw[Nat.mod_mod];exact h)]
 rfl
end Go.Sx
namespace Go.Sx
open Go Go.Proofs Go.Num
set_option maxRecDepth 100000
theorem hvm_lt {X:Nat} (h:X<qN):hvm X qN<qN:=by
 unfold hvm
 split<;>omega
theorem hv_cong {X A U:Nat} (h:X*A%qN=U%qN) (hU:U%2=0):hvm X qN*A%qN=U / 2%qN:=by
 refine fz_half h ?_ (by rw[show 2*(U / 2)=U by omega])
 unfold hvm
 split
 ·rw[show 2*((X+qN) / 2)=X+qN by have:=qN_odd;omega,fz_add,show fz qN=0 from fz_q 1]
  grobner
 ·rw[show 2*(X / 2)=X by omega]
theorem sub_cong {X Y A U V:Nat} (hX:X<qN) (h:X*A%qN=U%qN) (g:Y*A%qN=V%qN) (hUV:U≤V):(((Y:Int)-(X:Int))%(qN:Int)).toNat*A%qN=(V-U)%qN:=by
 rw[sub_int hX]
 have h1:=fz_eq.2 h
 have g1:=fz_eq.2 g
 have e:fz (V-U)+fz U=fz V:=by rw[←fz_add,Nat.sub_add_cancel hUV]
 rw[fz_mul]at h1 g1
 rw[←fz_eq,fz_mul,fz_mod,fz_sub (Nat.le_of_lt hX)]
 grobner
theorem gcd_half {U V:Nat} (h:Nat.gcd U V=1) (hU:U%2=0):Nat.gcd (U / 2) V=1∧V%2=1:=by
 have hd:U / 2 ∣ U:=⟨2,by omega⟩
 refine ⟨Nat.eq_one_of_dvd_one (h ▸ Nat.gcd_dvd_gcd_of_dvd_left V hd),?_⟩
 rcases Nat.mod_two_eq_zero_or_one V with e | e
 ·have:2 ∣ Nat.gcd U V:=Nat.dvd_gcd (Nat.dvd_of_mod_eq_zero hU) (Nat.dvd_of_mod_eq_zero e)
  rw[h]at this
  exact absurd (Nat.le_of_dvd (by decide) this) (by decide)
 ·exact e
structure ImP (A U V X Y:Nat):Prop where
 u:0<U
 v:0<V
 g:Nat.gcd U V=1
 x:X<qN
 y:Y<qN
 ex:X*A%qN=U%qN
 ey:Y*A%qN=V%qN
theorem ImP.first {A:Nat} (h0:0<A) (h:A<qN):ImP A A qN 1 0 where
 u:=h0
 v:=by decide
 g:=by rw[Nat.gcd_comm];exact pri_q.cop h0 h
 x:=by decide
 y:=by decide
 ex:=by rw[Nat.one_mul]
 ey:=by rw[Nat.zero_mul];rfl
structure I1P (A u0 V U X:Nat):Prop where
 u:0<U
 l:U≤u0
 g:Nat.gcd U V=1
 x:X<qN
 ex:X*A%qN=U%qN
 o:U≠1∨V%2=1
theorem ImP.in1 {A U V X Y:Nat} (h:ImP A U V X Y) (hU:U≠1):I1P A U V U X:=⟨h.u,Nat.le_refl _,h.g,h.x,h.ex,.inl hU⟩
theorem I1P.step {A u0 V U X:Nat} (h:I1P A u0 V U X) (he:U%2=0):I1P A u0 V (U / 2) (hvm X qN) where
 u:=by have:=h.u;omega
 l:=by have:=h.l;omega
 g:=(gcd_half h.g he).1
 x:=hvm_lt h.x
 ex:=hv_cong h.ex he
 o:= .inr (gcd_half h.g he).2
structure I2P (A U v0 V Y:Nat):Prop where
 v:0<V
 l:V≤v0
 g:Nat.gcd U V=1
 y:Y<qN
 ey:Y*A%qN=V%qN
 o:U≠1∨(V%2=1∧V≠1)
theorem ImP.in2 {A u0 U V X0 X Y:Nat} (h:ImP A u0 V X0 Y) (h1:I1P A u0 V U X) (hV:V≠1):I2P A U V V Y:=⟨h.v,Nat.le_refl _,h1.g,h.y,h.ey,h1.o.elim .inl fun e=> .inr ⟨e,hV⟩⟩
theorem I2P.step {A U v0 V Y:Nat} (h:I2P A U v0 V Y) (he:V%2=0):I2P A U v0 (V / 2) (hvm Y qN) where
 v:=by have:=h.v;omega
 l:=by have:=h.l;omega
 g:=by rw[Nat.gcd_comm];exact (gcd_half (by rw[Nat.gcd_comm];exact h.g) he).1
 y:=hvm_lt h.y
 ey:=hv_cong h.ey he
 o:=h.o.elim .inl fun e=>absurd e.1 (by omega)
theorem out_ne {A U u0 v0 V0 V X Y:Nat} (h1:I1P A u0 V0 U X) (h2:I2P A U v0 V Y) (ho:V%2=1):U≠V:=by
 intro e
 have g:=h2.g
 rw[e,Nat.gcd_self]at g
 have:=h2.o
 omega
theorem out_lt {A U u0 v0 V0 V X Y:Nat} (h1:I1P A u0 V0 U X) (h2:I2P A U v0 V Y) (h:U<V):ImP A U (V-U) X (((Y:Int)-(X:Int))%(qN:Int)).toNat where
 u:=h1.u
 v:=by omega
 g:=by rw[Nat.gcd_sub_self_right (Nat.le_of_lt h)];exact h2.g
 x:=h1.x
 y:=by rw[sub_int h1.x];exact Nat.mod_lt _ (by decide)
 ex:=h1.ex
 ey:=sub_cong h1.x h1.ex h2.ey (Nat.le_of_lt h)
theorem out_gt {A U u0 v0 V0 V X Y:Nat} (h1:I1P A u0 V0 U X) (h2:I2P A U v0 V Y) (h:V<U):ImP A (U-V) V (((X:Int)-(Y:Int))%(qN:Int)).toNat Y where
 u:=by omega
 v:=h2.v
 g:=by rw[Nat.gcd_comm,Nat.gcd_sub_self_right (Nat.le_of_lt h),Nat.gcd_comm];exact h2.g
 x:=by rw[sub_int h2.y];exact Nat.mod_lt _ (by decide)
 y:=h2.y
 ex:=sub_cong h2.y h2.ey h1.ex (Nat.le_of_lt h)
 ey:=h2.ey
theorem vc_im (S:ImI→Prop) (T R:Int→Int→InI→Prop) (a0 a1 a2 a3 m0 m1 m2 m3:Int) (K:SV→Mem→Prop):(execF cxIm (uIm S T R) Tryz.f97 64 [ag4 a0 a1 a2 a3,ag4 m0 m1 m2 m3] (memL []) K)=(∀x0,x0=a0→∀x1,x1=a1→∀
 x2,x2=a2→∀x3,x3=a3→∀x4,x4=m0→∀x5,x5=m1→∀x6,x6=m2→∀x7,x7=m3→∀x8,x8=a0→∀x9,x9=a1→∀br,br=a2→∀bs,bs=a3→(decide ([x8,x9,br,bs]= [(0:Int),(0:Int),(0:Int),(0:Int)])=true
 →K (.agg [.int .u64 (.lit 0),.int .u64 (.lit 0),.int .u64 (.lit 0),.int .u64 (.lit 0)]) (memL [(513,⟨false,.cells [.int .u64 (.sym a0),.int .u64 (.sym a1),.int .u64 (.sym a2),.int .u64 (.sym a3)]⟩),(521,⟨false,.cells [.int .u64
 (.sym m0),.int .u64 (.sym m1),.int .u64 (.sym m2),.int .u64 (.sym m3)]⟩),(529,⟨false,.cells [.int .u64 (.lit 0),.int .u64 (.lit 0),.int .u64 (.lit 0),.int .u64 (.lit 0)]⟩),(569,⟨false,.cells [.int .u64 (.sym x0),.int .u64
 (.sym x1),.int .u64 (.sym x2),.int .u64 (.sym x3)]⟩),(577,⟨false,.cells [.int .u64 (.sym x4),.int .u64 (.sym x5),.int .u64 (.sym x6),.int .u64 (.sym x7)]⟩),(585,⟨false,.cells [.int .u64 (.lit 1),.int .u64 (.lit 0),.int .u64
 (.lit 0),.int .u64 (.lit 0)]⟩),(593,⟨false,.cells [.int .u64 (.lit 0),.int .u64 (.lit 0),.int .u64 (.lit 0),.int .u64 (.lit 0)]⟩)]))∧(decide ([x8,x9,br,bs]= [(0:Int),(0:Int),(0:Int),(0:Int)])=false→((∃f:ImI,
 S f∧(a0=a0∧a1=a1∧a2=a2∧a3=a3)∧(m0=m0∧m1=m1∧m2=m2∧m3=m3)∧(x0=ImI.u0 f∧x1=ImI.u1 f∧x2=ImI.u2 f∧x3=ImI.u3 f)∧(x4=ImI.v0 f∧x5=ImI.v1 f∧x6=ImI.v2 f∧x7=ImI.v3 f)∧(1=ImI.x0 f∧0
 =ImI.x1 f∧0=ImI.x2 f∧0=ImI.x3 f)∧0=ImI.y0 f∧0=ImI.y1 f∧0=ImI.y2 f∧0=ImI.y3 f)∧∀a:ImI,S a→∀bt,bt=ImI.u0 a→∀bu,bu=ImI.u1 a→∀bv,bv=ImI.u2 a→∀bw,bw=ImI.u3 a→(Bool.not (decide ([bt,bu,
 bv,bw]= [(1:Int),(0:Int),(0:Int),(0:Int)]))=true→∀bx,bx=ImI.v0 a→∀bz,bz=ImI.v1 a→∀b0,b0=ImI.v2 a→∀b1,b1=ImI.v3 a→(Bool.not (decide ([bx,bz,b0,b1]= [(1:Int),(0:Int),(0:Int),(0:Int)]))
 =true→((∃i:InI,T (V4 (ImI.u0 a) (ImI.u1 a) (ImI.u2 a) (ImI.u3 a)) (V4 (ImI.v0 a) (ImI.v1 a) (ImI.v2 a) (ImI.v3 a)) i∧(a0=a0∧a1=a1∧a2=a2∧a3=a3)∧(m0=m0∧m1=m1∧m2=m2∧m3=m3)∧(ImI.v0 a=ImI.v0 a∧ImI.v1
 a=ImI.v1 a∧ImI.v2 a=ImI.v2 a∧ImI.v3 a=ImI.v3 a)∧(ImI.y0 a=ImI.y0 a∧ImI.y1 a=ImI.y1 a∧ImI.y2 a=ImI.y2 a∧ImI.y3 a=ImI.y3 a)∧(ImI.u0 a=InI.u0 i∧ImI.u1 a=InI.u1 i∧ImI.u2 a=InI.u2 i∧ImI.u3 a=InI.u3 i)∧
 ImI.x0 a=InI.x0 i∧ImI.x1 a=InI.x1 i∧ImI.x2 a=InI.x2 i∧ImI.x3 a=InI.x3 i)∧∀b:InI,T (V4 (ImI.u0 a) (ImI.u1 a) (ImI.u2 a) (ImI.u3 a)) (V4 (ImI.v0 a) (ImI.v1 a) (ImI.v2 a) (ImI.v3 a)) b→∀b2,b2=Int.tmod (InI.u0 b) (2:
 Int)→((b2==0)=true→∀I,I=InI.u0 b→∀J,J=InI.u1 b→∀L,L=InI.u2 b→∀M,M=InI.u3 b→((Wd I∧Wd J∧Wd L∧Wd M)∧∀cs,cs=lm (Int.toNat (V4 I J L M) / 2) 0→∀ct,ct=lm (Int.toNat (V4 I J L M) / 2) 1→∀cu,
 cu=lm (Int.toNat (V4 I J L M) / 2) 2→∀cv,cv=lm (Int.toNat (V4 I J L M) / 2) 3→∀N,N=InI.x0 b→∀O,O=InI.x1 b→∀Q,Q=InI.x2 b→∀V,V=InI.x3 b→∀X,X=m0→∀Y,Y=m1→∀Z,Z=m2→∀aa,aa=m3→(((Wd N∧Wd
 O∧Wd Q∧Wd V)∧Wd X∧Wd Y∧Wd Z∧Wd aa)∧∀cw,cw=lm (hvm (Int.toNat (V4 N O Q V)) (Int.toNat (V4 X Y Z aa))) 0→∀cx,cx=lm (hvm (Int.toNat (V4 N O Q V)) (Int.toNat (V4 X Y Z aa))) 1→∀cy,cy=lm (hvm (Int.toNat (V4 N O Q
 V)) (Int.toNat (V4 X Y Z aa))) 2→∀cz,cz=lm (hvm (Int.toNat (V4 N O Q V)) (Int.toNat (V4 X Y Z aa))) 3→∃g:InI,T (V4 (ImI.u0 a) (ImI.u1 a) (ImI.u2 a) (ImI.u3 a)) (V4 (ImI.v0 a) (ImI.v1 a) (ImI.v2 a) (ImI.v3 a)) g∧((a0=a0∧a1
 =a1∧a2=a2∧a3=a3)∧(m0=m0∧m1=m1∧m2=m2∧m3=m3)∧(ImI.v0 a=ImI.v0 a∧ImI.v1 a=ImI.v1 a∧ImI.v2 a=ImI.v2 a∧ImI.v3 a=ImI.v3 a)∧(ImI.y0 a=ImI.y0 a∧ImI.y1 a=ImI.y1 a∧ImI.y2 a=ImI.y2 a∧ImI.y3 a=
 ImI.y3 a)∧(cs=InI.u0 g∧ct=InI.u1 g∧cu=InI.u2 g∧cv=InI.u3 g)∧cw=InI.x0 g∧cx=InI.x1 g∧cy=InI.x2 g∧cz=InI.x3 g)∧Int.toNat (V4 (InI.u0 g) (InI.u1 g) (InI.u2 g) (InI.u3 g))<Int.toNat (V4 (InI.u0 b) (InI.u1 b)
 (InI.u2 b) (InI.u3 b)))))∧((b2==0)=false→((∃j:InI,R (V4 (InI.u0 b) (InI.u1 b) (InI.u2 b) (InI.u3 b)) (V4 (ImI.v0 a) (ImI.v1 a) (ImI.v2 a) (ImI.v3 a)) j∧(a0=a0∧a1=a1∧a2=a2∧a3=a3)∧(m0=m0∧m1=m1∧m2=m2∧
 m3=m3)∧(InI.u0 b=InI.u0 b∧InI.u1 b=InI.u1 b∧InI.u2 b=InI.u2 b∧InI.u3 b=InI.u3 b)∧(InI.x0 b=InI.x0 b∧InI.x1 b=InI.x1 b∧InI.x2 b=InI.x2 b∧InI.x3 b=InI.x3 b)∧(ImI.v0 a=InI.u0 j∧ImI.v1 a=InI.u1 j∧
 ImI.v2 a=InI.u2 j∧ImI.v3 a=InI.u3 j)∧ImI.y0 a=InI.x0 j∧ImI.y1 a=InI.x1 j∧ImI.y2 a=InI.x2 j∧ImI.y3 a=InI.x3 j)∧∀c:InI,R (V4 (InI.u0 b) (InI.u1 b) (InI.u2 b) (InI.u3 b)) (V4 (ImI.v0 a) (ImI.v1 a) (ImI.v2 a)
 (ImI.v3 a)) c→∀b3,b3=Int.tmod (InI.u0 c) (2:Int)→((b3==0)=true→∀ab,ab=InI.u0 c→∀ac,ac=InI.u1 c→∀ad,ad=InI.u2 c→∀ae,ae=InI.u3 c→((Wd ab∧Wd ac∧Wd ad∧Wd ae)∧∀c0,c0=lm (Int.toNat (V4 ab ac ad
 ae) / 2) 0→∀c1,c1=lm (Int.toNat (V4 ab ac ad ae) / 2) 1→∀c2,c2=lm (Int.toNat (V4 ab ac ad ae) / 2) 2→∀c3,c3=lm (Int.toNat (V4 ab ac ad ae) / 2) 3→∀af,af=InI.x0 c→∀ag,ag=InI.x1 c→∀ah,ah=InI.x2 c→∀ai,
 ai=InI.x3 c→∀aj,aj=m0→∀ak,ak=m1→∀al,al=m2→∀am,am=m3→(((Wd af∧Wd ag∧Wd ah∧Wd ai)∧Wd aj∧Wd ak∧Wd al∧Wd am)∧∀c4,c4=lm (hvm (Int.toNat (V4 af ag ah ai)) (Int.toNat (V4 aj ak al am))) 0→∀c5,c5
 =lm (hvm (Int.toNat (V4 af ag ah ai)) (Int.toNat (V4 aj ak al am))) 1→∀c6,c6=lm (hvm (Int.toNat (V4 af ag ah ai)) (Int.toNat (V4 aj ak al am))) 2→∀c7,c7=lm (hvm (Int.toNat (V4 af ag ah ai)) (Int.toNat (V4 aj ak al am))) 3→∃
 h:InI,R (V4 (InI.u0 b) (InI.u1 b) (InI.u2 b) (InI.u3 b)) (V4 (ImI.v0 a) (ImI.v1 a) (ImI.v2 a) (ImI.v3 a)) h∧((a0=a0∧a1=a1∧a2=a2∧a3=a3)∧(m0=m0∧m1=m1∧m2=m2∧m3=m3)∧(InI.u0 b=InI.u0 b∧InI.u1 b=InI.u1
 b∧InI.u2 b=InI.u2 b∧InI.u3 b=InI.u3 b)∧(InI.x0 b=InI.x0 b∧InI.x1 b=InI.x1 b∧InI.x2 b=InI.x2 b∧InI.x3 b=InI.x3 b)∧(c0=InI.u0 h∧c1=InI.u1 h∧c2=InI.u2 h∧c3=InI.u3 h)∧c4=InI.x0 h∧c5=InI.x1 h∧c6
 =InI.x2 h∧c7=InI.x3 h)∧Int.toNat (V4 (InI.u0 h) (InI.u1 h) (InI.u2 h) (InI.u3 h))<Int.toNat (V4 (InI.u0 c) (InI.u1 c) (InI.u2 c) (InI.u3 c)))))∧((b3==0)=false→∀a9,a9=InI.u0 b→∀ba,ba=InI.u1 b→∀bb,bb=InI.u2 b
 →∀bc,bc=InI.u3 b→∀bd,bd=InI.u0 c→∀be,be=InI.u1 c→∀bf,bf=InI.u2 c→∀bg,bg=InI.u3 c→((Wd a9∧Wd ba∧Wd bb∧Wd bc)∧Wd bd∧Wd be∧Wd bf∧Wd bg)∧(decide (V4 a9 ba bb bc<V4 bd be bf bg)=true→∀an,an
 =InI.u0 c→∀ao,ao=InI.u1 c→∀ap,ap=InI.u2 c→∀aq,aq=InI.u3 c→∀ar,ar=InI.u0 b→∀au,au=InI.u1 b→∀av,av=InI.u2 b→∀aw,aw=InI.u3 b→(((Wd an∧Wd ao∧Wd ap∧Wd aq)∧Wd ar∧Wd au∧Wd av∧Wd aw)∧∀
 c8,c8=lm (w256 (V4 an ao ap aq-V4 ar au av aw)) 0→∀c9,c9=lm (w256 (V4 an ao ap aq-V4 ar au av aw)) 1→∀da,da=lm (w256 (V4 an ao ap aq-V4 ar au av aw)) 2→∀db,db=lm (w256 (V4 an ao ap aq-V4 ar au av aw)) 3→∀s,
 s=InI.x0 c→∀t,t=InI.x1 c→∀u,u=InI.x2 c→∀v,v=InI.x3 c→∀w,w=InI.x0 b→∀x,x=InI.x1 b→∀y,y=InI.x2 b→∀z,z=InI.x3 b→∀k,k=m0→∀l,l=m1→∀m,m=m2→∀n,n=m3→((((Wd s∧Wd t∧Wd u∧Wd
 v)∧(Wd w∧Wd x∧Wd y∧Wd z)∧Wd k∧Wd l∧Wd m∧Wd n)∧V4 s t u v<V4 k l m n∧V4 w x y z<V4 k l m n)∧∀dc,dc=lm (Int.toNat ((V4 s t u v-V4 w x y z)%V4 k l m n)) 0→∀dd,dd=lm (Int.toNat ((V4 s t u v-V4 w x y z)
 % V4 k l m n)) 1→∀de,de=lm (Int.toNat ((V4 s t u v-V4 w x y z)%V4 k l m n)) 2→∀df,df=lm (Int.toNat ((V4 s t u v-V4 w x y z)%V4 k l m n)) 3→∃d:ImI,S d∧((a0=a0∧a1=a1∧a2=a2∧a3=a3)∧(m0=m0∧m1=m1
 ∧m2=m2∧m3=m3)∧(InI.u0 b=ImI.u0 d∧InI.u1 b=ImI.u1 d∧InI.u2 b=ImI.u2 d∧InI.u3 b=ImI.u3 d)∧(c8=ImI.v0 d∧c9=ImI.v1 d∧da=ImI.v2 d∧db=ImI.v3 d)∧(InI.x0 b=ImI.x0 d∧InI.x1 b=ImI.x1 d∧InI.x2 b=
 ImI.x2 d∧InI.x3 b=ImI.x3 d)∧dc=ImI.y0 d∧dd=ImI.y1 d∧de=ImI.y2 d∧df=ImI.y3 d)∧Int.toNat (V4 (ImI.u0 d) (ImI.u1 d) (ImI.u2 d) (ImI.u3 d)+V4 (ImI.v0 d) (ImI.v1 d) (ImI.v2 d) (ImI.v3 d))<Int.toNat (V4 (ImI.u0 a)
 (ImI.u1 a) (ImI.u2 a) (ImI.u3 a)+V4 (ImI.v0 a) (ImI.v1 a) (ImI.v2 a) (ImI.v3 a)))))∧(decide (V4 a9 ba bb bc<V4 bd be bf bg)=false→∀ax,ax=InI.u0 b→∀ay,ay=InI.u1 b→∀az,az=InI.u2 b→∀a4,a4=InI.u3 b→∀a5,a5=
 InI.u0 c→∀a6,a6=InI.u1 c→∀a7,a7=InI.u2 c→∀a8,a8=InI.u3 c→(((Wd ax∧Wd ay∧Wd az∧Wd a4)∧Wd a5∧Wd a6∧Wd a7∧Wd a8)∧∀dg,dg=lm (w256 (V4 ax ay az a4-V4 a5 a6 a7 a8)) 0→∀dh,dh=lm (w256 (V4 ax ay az
 a4-V4 a5 a6 a7 a8)) 1→∀di,di=lm (w256 (V4 ax ay az a4-V4 a5 a6 a7 a8)) 2→∀dj,dj=lm (w256 (V4 ax ay az a4-V4 a5 a6 a7 a8)) 3→∀A,A=InI.x0 b→∀B,B=InI.x1 b→∀C,C=InI.x2 b→∀D,D=InI.x3 b→∀E,E=InI.x0
 c→∀F,F=InI.x1 c→∀G,G=InI.x2 c→∀H,H=InI.x3 c→∀o,o=m0→∀p,p=m1→∀q,q=m2→∀r,r=m3→((((Wd A∧Wd B∧Wd C∧Wd D)∧(Wd E∧Wd F∧Wd G∧Wd H)∧Wd o∧Wd p∧Wd q∧Wd r)∧V4 A B C D<V4 o p q r∧
 V4 E F G H<V4 o p q r)∧∀dk,dk=lm (Int.toNat ((V4 A B C D-V4 E F G H)%V4 o p q r)) 0→∀dl,dl=lm (Int.toNat ((V4 A B C D-V4 E F G H)%V4 o p q r)) 1→∀dm,dm=lm (Int.toNat ((V4 A B C D-V4 E F G H)%V4 o p q r)) 2→
 ∀dn,dn=lm (Int.toNat ((V4 A B C D-V4 E F G H)%V4 o p q r)) 3→∃e:ImI,S e∧((a0=a0∧a1=a1∧a2=a2∧a3=a3)∧(m0=m0∧m1=m1∧m2=m2∧m3=m3)∧(dg=ImI.u0 e∧dh=ImI.u1 e∧di=ImI.u2 e∧dj=ImI.u3 e)∧
 (InI.u0 c=ImI.v0 e∧InI.u1 c=ImI.v1 e∧InI.u2 c=ImI.v2 e∧InI.u3 c=ImI.v3 e)∧(dk=ImI.x0 e∧dl=ImI.x1 e∧dm=ImI.x2 e∧dn=ImI.x3 e)∧InI.x0 c=ImI.y0 e∧InI.x1 c=ImI.y1 e∧InI.x2 c=ImI.y2 e∧InI.x3 c=ImI.y3
 e)∧Int.toNat (V4 (ImI.u0 e) (ImI.u1 e) (ImI.u2 e) (ImI.u3 e)+V4 (ImI.v0 e) (ImI.v1 e) (ImI.v2 e) (ImI.v3 e))<Int.toNat (V4 (ImI.u0 a) (ImI.u1 a) (ImI.u2 a) (ImI.u3 a)+V4 (ImI.v0 a) (ImI.v1 a) (ImI.v2 a) (ImI.v3 a))))))))))∧
 (Bool.not (decide ([bx,bz,b0,b1]= [(1:Int),(0:Int),(0:Int),(0:Int)]))=false→∀b4,b4=ImI.u0 a→∀b5,b5=ImI.u1 a→∀b6,b6=ImI.u2 a→∀b7,b7=ImI.u3 a→(decide ([b4,b5,b6,b7]= [(1:Int),(0:Int),(0:
 Int),(0:Int)])=true→∀b8,b8=ImI.x0 a→∀b9,b9=ImI.x1 a→∀ca,ca=ImI.x2 a→∀cb,cb=ImI.x3 a→K (.agg [.int .u64 (.sym b8),.int .u64 (.sym b9),.int .u64 (.sym ca),.int .u64 (.sym cb)]) (memL [(513,⟨false,.cells
 [.int .u64 (.sym a0),.int .u64 (.sym a1),.int .u64 (.sym a2),.int .u64 (.sym a3)]⟩),(521,⟨false,.cells [.int .u64 (.sym m0),.int .u64 (.sym m1),.int .u64 (.sym m2),.int .u64 (.sym m3)]⟩),(529,⟨false,.cells [.int .u64 (.sym b8),
 .int .u64 (.sym b9),.int .u64 (.sym ca),.int .u64 (.sym cb)]⟩),(569,⟨false,.cells [.int .u64 (.sym (ImI.u0 a)),.int .u64 (.sym (ImI.u1 a)),.int .u64 (.sym (ImI.u2 a)),.int .u64 (.sym (ImI.u3 a))]⟩),(577,⟨false,.cells [.int .u64
 (.sym (ImI.v0 a)),.int .u64 (.sym (ImI.v1 a)),.int .u64 (.sym (ImI.v2 a)),.int .u64 (.sym (ImI.v3 a))]⟩),(585,⟨false,.cells [.int .u64 (.sym (ImI.x0 a)),.int .u64 (.sym (ImI.x1 a)),.int .u64 (.sym (ImI.x2 a)),.int .u64 (.sym
 (ImI.x3 a))]⟩),(593,⟨false,.cells [.int .u64 (.sym (ImI.y0 a)),.int .u64 (.sym (ImI.y1 a)),.int .u64 (.sym (ImI.y2 a)),.int .u64 (.sym (ImI.y3 a))]⟩)]))∧(decide ([b4,b5,b6,b7]= [(1:Int),(0:Int),(0:Int),(0:Int)])=
 false→∀cc,cc=ImI.y0 a→∀cd,cd=ImI.y1 a→∀ce,ce=ImI.y2 a→∀cf,cf=ImI.y3 a→K (.agg [.int .u64 (.sym cc),.int .u64 (.sym cd),.int .u64 (.sym ce),.int .u64 (.sym cf)]) (memL [(513,⟨false,.cells [.int .u64 (.sym a0),
 .int .u64 (.sym a1),.int .u64 (.sym a2),.int .u64 (.sym a3)]⟩),(521,⟨false,.cells [.int .u64 (.sym m0),.int .u64 (.sym m1),.int .u64 (.sym m2),.int .u64 (.sym m3)]⟩),(529,⟨false,.cells [.int .u64 (.sym cc),.int .u64 (.sym cd),
 .int .u64 (.sym ce),.int .u64 (.sym cf)]⟩),(569,⟨false,.cells [.int .u64 (.sym (ImI.u0 a)),.int .u64 (.sym (ImI.u1 a)),.int .u64 (.sym (ImI.u2 a)),.int .u64 (.sym (ImI.u3 a))]⟩),(577,⟨false,.cells [.int .u64 (.sym (ImI.v0 a)),
 .int .u64 (.sym (ImI.v1 a)),.int .u64 (.sym (ImI.v2 a)),.int .u64 (.sym (ImI.v3 a))]⟩),(585,⟨false,.cells [.int .u64 (.sym (ImI.x0 a)),.int .u64 (.sym (ImI.x1 a)),.int .u64 (.sym (ImI.x2 a)),.int .u64 (.sym (ImI.x3 a))]⟩),(593,
 ⟨false,.cells [.int .u64 (.sym (ImI.y0 a)),.int .u64 (.sym (ImI.y1 a)),.int .u64 (.sym (ImI.y2 a)),.int .u64 (.sym (ImI.y3 a))]⟩)]))))∧(Bool.not (decide ([bt,bu,bv,bw]= [(1:Int),(0:Int),(0:Int),(0:Int)]))=false→∀
 cg,cg=ImI.u0 a→∀ch,ch=ImI.u1 a→∀ci,ci=ImI.u2 a→∀cj,cj=ImI.u3 a→(decide ([cg,ch,ci,cj]= [(1:Int),(0:Int),(0:Int),(0:Int)])=true→∀ck,ck=ImI.x0 a→∀cl,cl=ImI.x1 a→∀cm,cm=ImI.x2 a→∀
 cn,cn=ImI.x3 a→K (.agg [.int .u64 (.sym ck),.int .u64 (.sym cl),.int .u64 (.sym cm),.int .u64 (.sym cn)]) (memL [(513,⟨false,.cells [.int .u64 (.sym a0),.int .u64 (.sym a1),.int .u64 (.sym a2),.int .u64 (.sym a3)]⟩),(521,
 ⟨false,.cells [.int .u64 (.sym m0),.int .u64 (.sym m1),.int .u64 (.sym m2),.int .u64 (.sym m3)]⟩),(529,⟨false,.cells [.int .u64 (.sym ck),.int .u64 (.sym cl),.int .u64 (.sym cm),.int .u64 (.sym cn)]⟩),(569,⟨false,.cells [.int
 .u64 (.sym (ImI.u0 a)),.int .u64 (.sym (ImI.u1 a)),.int .u64 (.sym (ImI.u2 a)),.int .u64 (.sym (ImI.u3 a))]⟩),(577,⟨false,.cells [.int .u64 (.sym (ImI.v0 a)),.int .u64 (.sym (ImI.v1 a)),.int .u64 (.sym (ImI.v2 a)),.int .u64 (.sym
 (ImI.v3 a))]⟩),(585,⟨false,.cells [.int .u64 (.sym (ImI.x0 a)),.int .u64 (.sym (ImI.x1 a)),.int .u64 (.sym (ImI.x2 a)),.int .u64 (.sym (ImI.x3 a))]⟩),(593,⟨false,.cells [.int .u64 (.sym (ImI.y0 a)),.int .u64 (.sym (ImI.y1 a)),
 .int .u64 (.sym (ImI.y2 a)),.int .u64 (.sym (ImI.y3 a))]⟩)]))∧(decide ([cg,ch,ci,cj]= [(1:Int),(0:Int),(0:Int),(0:Int)])=false→∀co,co=ImI.y0 a→∀cp,cp=ImI.y1 a→∀cq,cq=ImI.y2 a→∀cr,cr=ImI.y3 a→K
 (.agg [.int .u64 (.sym co),.int .u64 (.sym cp),.int .u64 (.sym cq),.int .u64 (.sym cr)]) (memL [(513,⟨false,.cells [.int .u64 (.sym a0),.int .u64 (.sym a1),.int .u64 (.sym a2),.int .u64 (.sym a3)]⟩),(521,⟨false,.cells [.int .u64
 (.sym m0),.int .u64 (.sym m1),.int .u64 (.sym m2),.int .u64 (.sym m3)]⟩),(529,⟨false,.cells [.int .u64 (.sym co),.int .u64 (.sym cp),.int .u64 (.sym cq),.int .u64 (.sym cr)]⟩),(569,⟨false,.cells [.int .u64 (.sym (ImI.u0 a)),
 .int .u64 (.sym (ImI.u1 a)),.int .u64 (.sym (ImI.u2 a)),.int .u64 (.sym (ImI.u3 a))]⟩),(577,⟨false,.cells [.int .u64 (.sym (ImI.v0 a)),.int .u64 (.sym (ImI.v1 a)),.int .u64 (.sym (ImI.v2 a)),.int .u64 (.sym (ImI.v3 a))]⟩),(585,
 ⟨false,.cells [.int .u64 (.sym (ImI.x0 a)),.int .u64 (.sym (ImI.x1 a)),.int .u64 (.sym (ImI.x2 a)),.int .u64 (.sym (ImI.x3 a))]⟩),(593,⟨false,.cells [.int .u64 (.sym (ImI.y0 a)),.int .u64 (.sym (ImI.y1 a)),.int .u64 (.sym (ImI.y2
 a)),.int .u64 (.sym (ImI.y3 a))]⟩)])))))):=by kernel_rfl
theorem list_lit {a b c d:Int} {A:Nat} (h:Ws a b c d A) (n:Int) (h0:0≤n) (h1:n<18446744073709551616): [a,b,c,d]= [n,0,0,0]↔(A:Int)=n:=by
 obtain ⟨wa,wb,wc,wd⟩:=h.wd
 rw[←h.val]
 simp only[List.cons.injEq,and_true]
 unfold Wd at *
 unfold V4
 omega
def ImT (A:Nat) (u0 v:Int) (i:InI):Prop:=∃U X,Ws i.u0 i.u1 i.u2 i.u3 U∧Ws i.x0 i.x1 i.x2 i.x3 X∧I1P A u0.toNat v.toNat U X
def ImR (A:Nat) (u v0:Int) (i:InI):Prop:=∃V Y,Ws i.u0 i.u1 i.u2 i.u3 V∧Ws i.x0 i.x1 i.x2 i.x3 Y∧I2P A u.toNat v0.toNat V Y
def ImS (A:Nat) (i:ImI):Prop:=∃U V X Y,(Ws i.u0 i.u1 i.u2 i.u3 U∧Ws i.v0 i.v1 i.v2 i.v3 V∧Ws i.x0 i.x1 i.x2 i.x3 X∧Ws i.y0 i.y1 i.y2 i.y3 Y)∧ImP A U V X Y
theorem ws_q {x:Nat} (h:x<qN):Ws (lm x 0) (lm x 1) (lm x 2) (lm x 3) x:=ws_lm (Nat.lt_trans h (by decide))
theorem ws_dec {a b c d:Int} {A:Nat} (h:Ws a b c d A):Ws (lm (A / 2) 0) (lm (A / 2) 1) (lm (A / 2) 2) (lm (A / 2) 3) (A / 2):=ws_lm (Nat.lt_of_le_of_lt (Nat.div_le_self _ _) h.lt)
theorem par {a b c d:Int} {A:Nat} (h:Ws a b c d A):Int.tmod a 2=((A%2:Nat):Int):=by
 have w:=h.wd.1
 have v:=h.val
 unfold Wd at w
 unfold V4 at v
 rw[Int.tmod_eq_emod_of_nonneg w.1]
 omega
theorem w256_sub {A B:Nat} (h:B≤A) (hA:A<115792089237316195423570985008687907853269984665640564039457584007913129639936):w256 ((A:Int)-(B:Int))=A-B:=by
 unfold w256
 omega
theorem im_walk {A:Nat} {a0 a1 a2 a3 m0 m1 m2 m3:Int} {K:SV→Mem→Prop} (ha:Ws a0 a1 a2 a3 A) (hm:Ws m0 m1 m2 m3 qN) (hA:A<qN)
  (hK:A≠0→∀x0 x1 x2 x3,Ws x0 x1 x2 x3 (inv0 A)→∀m,K (ag4 x0 x1 x2 x3) m) (h0:A=0→∀m,K (.agg [.int .u64 (.lit 0),.int .u64 (.lit 0),.int .u64 (.lit 0),.int .u64 (.lit 0)]) m):
  execF cxIm (uIm (ImS A) (ImT A) (ImR A)) Tryz.f97 64 [ag4 a0 a1 a2 a3,ag4 m0 m1 m2 m3] (memL []) K:=by
 rw[vc_im]
 have vm:=hm.val
 have wm:=hm.wd
 intro s0 ks0 s1 ks1 s2 ks2 s3 ks3 s4 ks4 s5 ks5 s6 ks6 s7 ks7 s8 ks8 s9 ks9 s10 ks10 s11 ks11;subst s0 s1 s2 s3 s4 s5 s6 s7 s8 s9 s10 s11
 refine ⟨fun h=>h0 ?_ _,fun h=> ?_⟩
 ·have:=(list_lit ha 0 (by decide) (by decide)).1 (of_decide_eq_true h)
  omega
 have hA0:A≠0:=by
  intro e
  exact of_decide_eq_false h ((list_lit ha 0 (by decide) (by decide)).2 (by omega))
 clear h h0
 have hK:=hK hA0
 refine ⟨⟨⟨a0,a1,a2,a3,m0,m1,m2,m3,1,0,0,0,0,0,0,0⟩,⟨A,qN,1,0,⟨ha,hm,⟨rfl,rfl,rfl,rfl,by decide⟩,⟨rfl,rfl,rfl,rfl,by decide⟩⟩,ImP.first (by omega) hA⟩,⟨rfl,rfl,rfl,rfl⟩,⟨rfl,rfl,rfl,rfl⟩,⟨rfl,rfl,rfl,rfl⟩,⟨rfl,rfl,rfl,rfl⟩,⟨rfl,rfl,rfl,rfl⟩,rfl,rfl,rfl,rfl⟩,?_⟩
 rintro ⟨u0,u1,u2,u3,v0,v1,v2,v3,x0,x1,x2,x3,y0,y1,y2,y3⟩ ⟨U,V,X,Y,⟨hu,hv,hx,hy⟩,P⟩
 dsimp only at hu hv hx hy ⊢
 have vu:=hu.val
 have vv:=hv.val
 have fin:∀m,(U=1→K (ag4 x0 x1 x2 x3) m)∧(V=1→K (ag4 y0 y1 y2 y3) m):=by
  refine fun m=>⟨fun e=>hK _ _ _ _ ?_ _,fun e=>hK _ _ _ _ ?_ _⟩
  ·rw[←inv0_unique P.x (by rw[P.ex,e];decide)];exact hx
  ·rw[←inv0_unique P.y (by rw[P.ey,e];decide)];exact hy
 intro s0 ks0 s1 ks1 s2 ks2 s3 ks3;subst s0 s1 s2 s3
 refine ⟨fun hU=> ?_,fun hU=> ?_⟩
 rotate_left
 ·have hU1:U=1:=by
   have:=(list_lit hu 1 (by decide) (by decide)).1 (of_decide_eq_true (by simpa using hU))
   omega
  intro s0 ks0 s1 ks1 s2 ks2 s3 ks3;subst s0 s1 s2 s3
  refine ⟨fun h1=> ?_,fun h1=> ?_⟩
  ·intro s0 ks0 s1 ks1 s2 ks2 s3 ks3;subst s0 s1 s2 s3
   exact (fin _).1 hU1
  ·exact absurd ((list_lit hu 1 (by decide) (by decide)).2 (by omega)) (of_decide_eq_false h1)
 have hU:U≠1:=by
  intro e
  have:=(list_lit hu 1 (by decide) (by decide)).2 (by omega)
  rw[this]at hU
  exact absurd hU (by decide)
 intro s0 ks0 s1 ks1 s2 ks2 s3 ks3;subst s0 s1 s2 s3
 refine ⟨fun hV=> ?_,fun hV=> ?_⟩
 rotate_left
 ·have hV1:V=1:=by
   have:=(list_lit hv 1 (by decide) (by decide)).1 (of_decide_eq_true (by simpa using hV))
   omega
  intro s0 ks0 s1 ks1 s2 ks2 s3 ks3;subst s0 s1 s2 s3
  refine ⟨fun h1=> ?_,fun h1=> ?_⟩
  ·have:=(list_lit hu 1 (by decide) (by decide)).1 (of_decide_eq_true h1)
   omega
  ·intro s0 ks0 s1 ks1 s2 ks2 s3 ks3;subst s0 s1 s2 s3
   exact (fin _).2 hV1
 have hV:V≠1:=by
  intro e
  have:=(list_lit hv 1 (by decide) (by decide)).2 (by omega)
  rw[this]at hV
  exact absurd hV (by decide)
 clear fin
 rw[vu,vv]
 refine ⟨⟨⟨u0,u1,u2,u3,x0,x1,x2,x3⟩,⟨U,X,hu,hx,by rw[Int.toNat_natCast,Int.toNat_natCast];exact P.in1 hU⟩,⟨rfl,rfl,rfl,rfl⟩,⟨rfl,rfl,rfl,rfl⟩,⟨rfl,rfl,rfl,rfl⟩,⟨rfl,rfl,rfl,rfl⟩,⟨rfl,rfl,rfl,rfl⟩,rfl,rfl,rfl,rfl⟩,?_⟩
 rintro ⟨u0,u1,u2,u3,x0,x1,x2,x3⟩ ⟨U1,X1,hu1,hx1,P1⟩
 rw[Int.toNat_natCast,Int.toNat_natCast]at P1
 dsimp only at hu1 hx1 ⊢
 have vu1:=hu1.val
 rw[par hu1]
 intro p hp
 refine ⟨fun he=> ?_,fun he=> ?_⟩
 ·have he:U1%2=0:=by
   have:p=0:=by simpa using he
   omega
  intro s0 ks0 s1 ks1 s2 ks2 s3 ks3;subst s0 s1 s2 s3
  refine ⟨hu1.wd,?_⟩
  rw[vu1,Int.toNat_natCast]
  intro s0 ks0 s1 ks1 s2 ks2 s3 ks3 s4 ks4 s5 ks5 s6 ks6 s7 ks7 s8 ks8 s9 ks9 s10 ks10 s11 ks11;subst s0 s1 s2 s3 s4 s5 s6 s7 s8 s9 s10 s11
  refine ⟨⟨hx1.wd,wm⟩,?_⟩
  rw[hx1.val,vm,Int.toNat_natCast,Int.toNat_natCast]
  intro s0 ks0 s1 ks1 s2 ks2 s3 ks3;subst s0 s1 s2 s3
  have P2:=P1.step he
  have hd:=ws_dec hu1
  refine ⟨⟨lm (U1 / 2) 0,lm (U1 / 2) 1,lm (U1 / 2) 2,lm (U1 / 2) 3,lm (hvm X1 qN) 0,lm (hvm X1 qN) 1,lm (hvm X1 qN) 2,lm (hvm X1 qN) 3⟩,⟨U1 / 2,hvm X1 qN,hd,ws_q P2.x,by rw[Int.toNat_natCast,Int.toNat_natCast];exact P2⟩,⟨⟨rfl,rfl,rfl,rfl⟩,⟨rfl,rfl,rfl,rfl⟩,⟨rfl,rfl,rfl,rfl⟩,⟨rfl,rfl,rfl,rfl⟩,⟨rfl,rfl,rfl,rfl⟩,rfl,rfl,rfl,rfl⟩,?_⟩
  dsimp only
  rw[hd.val]
  have:=P2.u
  omega
 have ho:U1%2=1:=by
  have:¬p=0:=by simpa using he
  omega
 rw[vu1]
 refine ⟨⟨⟨v0,v1,v2,v3,y0,y1,y2,y3⟩,⟨V,Y,hv,hy,by rw[Int.toNat_natCast,Int.toNat_natCast];exact P.in2 P1 hV⟩,⟨rfl,rfl,rfl,rfl⟩,⟨rfl,rfl,rfl,rfl⟩,⟨rfl,rfl,rfl,rfl⟩,⟨rfl,rfl,rfl,rfl⟩,⟨rfl,rfl,rfl,rfl⟩,rfl,rfl,rfl,rfl⟩,?_⟩
 rintro ⟨v0,v1,v2,v3,y0,y1,y2,y3⟩ ⟨V1,Y1,hv1,hy1,Q1⟩
 rw[Int.toNat_natCast,Int.toNat_natCast]at Q1
 dsimp only at hv1 hy1 ⊢
 have vv1:=hv1.val
 rw[par hv1]
 clear hp he p
 intro p hp
 refine ⟨fun he=> ?_,fun he=> ?_⟩
 ·have he:V1%2=0:=by
   have:p=0:=by simpa using he
   omega
  intro s0 ks0 s1 ks1 s2 ks2 s3 ks3;subst s0 s1 s2 s3
  refine ⟨hv1.wd,?_⟩
  rw[vv1,Int.toNat_natCast]
  intro s0 ks0 s1 ks1 s2 ks2 s3 ks3 s4 ks4 s5 ks5 s6 ks6 s7 ks7 s8 ks8 s9 ks9 s10 ks10 s11 ks11;subst s0 s1 s2 s3 s4 s5 s6 s7 s8 s9 s10 s11
  refine ⟨⟨hy1.wd,wm⟩,?_⟩
  rw[hy1.val,vm,Int.toNat_natCast,Int.toNat_natCast]
  intro s0 ks0 s1 ks1 s2 ks2 s3 ks3;subst s0 s1 s2 s3
  have Q2:=Q1.step he
  have hd:=ws_dec hv1
  refine ⟨⟨lm (V1 / 2) 0,lm (V1 / 2) 1,lm (V1 / 2) 2,lm (V1 / 2) 3,lm (hvm Y1 qN) 0,lm (hvm Y1 qN) 1,lm (hvm Y1 qN) 2,lm (hvm Y1 qN) 3⟩,⟨V1 / 2,hvm Y1 qN,hd,ws_q Q2.y,by rw[Int.toNat_natCast,Int.toNat_natCast];exact Q2⟩,⟨⟨rfl,rfl,rfl,rfl⟩,⟨rfl,rfl,rfl,rfl⟩,⟨rfl,rfl,rfl,rfl⟩,⟨rfl,rfl,rfl,rfl⟩,⟨rfl,rfl,rfl,rfl⟩,rfl,rfl,rfl,rfl⟩,?_⟩
  dsimp only
  rw[hd.val]
  have:=Q2.v
  omega
 have he:V1%2=1:=by
  have:¬p=0:=by simpa using he
  omega
 have hne:=out_ne P1 Q1 he
 have lu:=P1.l
 have lv:=Q1.l
 have pu:=P1.u
 have pv:=Q1.v
 intro s0 ks0 s1 ks1 s2 ks2 s3 ks3 s4 ks4 s5 ks5 s6 ks6 s7 ks7;subst s0 s1 s2 s3 s4 s5 s6 s7
 refine ⟨⟨hu1.wd,hv1.wd⟩,?_⟩
 rw[vu1,vv1]
 refine ⟨fun hl=> ?_,fun hl=> ?_⟩
 ·have hl:U1<V1:=by
   have:=of_decide_eq_true hl
   omega
  intro s0 ks0 s1 ks1 s2 ks2 s3 ks3 s4 ks4 s5 ks5 s6 ks6 s7 ks7;subst s0 s1 s2 s3 s4 s5 s6 s7
  refine ⟨⟨hv1.wd,hu1.wd⟩,?_⟩
  rw[vu1,vv1,w256_sub (Nat.le_of_lt hl) hv1.lt]
  intro s0 ks0 s1 ks1 s2 ks2 s3 ks3 s4 ks4 s5 ks5 s6 ks6 s7 ks7 s8 ks8 s9 ks9 s10 ks10 s11 ks11 s12 ks12 s13 ks13 s14 ks14 s15 ks15;subst s0 s1 s2 s3 s4 s5 s6 s7 s8 s9 s10 s11 s12 s13 s14 s15
  have bx:=P1.x
  have b_y:=Q1.y
  rw[hx1.val,hy1.val,vm]
  refine ⟨⟨⟨hy1.wd,hx1.wd,wm⟩,by omega,by omega⟩,?_⟩
  intro s0 ks0 s1 ks1 s2 ks2 s3 ks3;subst s0 s1 s2 s3
  have P2:=out_lt P1 Q1 hl
  have hd:=ws_lm (x:=V1-U1) (by have:=hv1.lt;omega)
  refine ⟨⟨u0,u1,u2,u3,lm (V1-U1) 0,lm (V1-U1) 1,lm (V1-U1) 2,lm (V1-U1) 3,x0,x1,x2,x3,lm ((((Y1:Int)-(X1:Int))%(qN:Int)).toNat) 0,lm ((((Y1:Int)-(X1:Int))%(qN:Int)).toNat) 1,lm ((((Y1:Int)-(X1:Int))%(qN:Int)).toNat) 2,lm ((((Y1:Int)-(X1:Int))%(qN:Int)).toNat) 3⟩,⟨_,_,_,_,⟨hu1,hd,hx1,ws_q P2.y⟩,P2⟩,⟨⟨rfl,rfl,rfl,rfl⟩,⟨rfl,rfl,rfl,rfl⟩,⟨rfl,rfl,rfl,rfl⟩,⟨rfl,rfl,rfl,rfl⟩,⟨rfl,rfl,rfl,rfl⟩,rfl,rfl,rfl,rfl⟩,?_⟩
  dsimp only
  rw[hd.val,vu1]
  omega
 ·have hl:V1<U1:=by
   have:=of_decide_eq_false hl
   omega
  intro s0 ks0 s1 ks1 s2 ks2 s3 ks3 s4 ks4 s5 ks5 s6 ks6 s7 ks7;subst s0 s1 s2 s3 s4 s5 s6 s7
  refine ⟨⟨hu1.wd,hv1.wd⟩,?_⟩
  rw[vu1,vv1,w256_sub (Nat.le_of_lt hl) hu1.lt]
  intro s0 ks0 s1 ks1 s2 ks2 s3 ks3 s4 ks4 s5 ks5 s6 ks6 s7 ks7 s8 ks8 s9 ks9 s10 ks10 s11 ks11 s12 ks12 s13 ks13 s14 ks14 s15 ks15;subst s0 s1 s2 s3 s4 s5 s6 s7 s8 s9 s10 s11 s12 s13 s14 s15
  have bx:=P1.x
  have b_y:=Q1.y
  rw[hx1.val,hy1.val,vm]
  refine ⟨⟨⟨hx1.wd,hy1.wd,wm⟩,by omega,by omega⟩,?_⟩
  intro s0 ks0 s1 ks1 s2 ks2 s3 ks3;subst s0 s1 s2 s3
  have P2:=out_gt P1 Q1 hl
  have hd:=ws_lm (x:=U1-V1) (by have:=hu1.lt;omega)
  refine ⟨⟨lm (U1-V1) 0,lm (U1-V1) 1,lm (U1-V1) 2,lm (U1-V1) 3,v0,v1,v2,v3,lm ((((X1:Int)-(Y1:Int))%(qN:Int)).toNat) 0,lm ((((X1:Int)-(Y1:Int))%(qN:Int)).toNat) 1,lm ((((X1:Int)-(Y1:Int))%(qN:Int)).toNat) 2,lm ((((X1:Int)-(Y1:Int))%(qN:Int)).toNat) 3,y0,y1,y2,y3⟩,⟨_,_,_,_,⟨hd,hv1,ws_q P2.x,hy1⟩,P2⟩,⟨⟨rfl,rfl,rfl,rfl⟩,⟨rfl,rfl,rfl,rfl⟩,⟨rfl,rfl,rfl,rfl⟩,⟨rfl,rfl,rfl,rfl⟩,⟨rfl,rfl,rfl,rfl⟩,rfl,rfl,rfl,rfl⟩,?_⟩
  dsimp only
  rw[hd.val,vv1]
  omega
def rIm:R0:=fun args l=>
 match args,l with
 | [.agg [.int .u64 (.sym a0),.int .u64 (.sym a1),.int .u64 (.sym a2),.int .u64 (.sym a3)],.agg [.int .u64 (.sym m0),.int .u64 (.sym m1),.int .u64 (.sym m2),.int .u64 (.sym m3)]],[]=>some (some (((Wd a0∧Wd a1∧Wd a2∧Wd a3)∧(Wd m0∧Wd m1∧Wd m2∧Wd m3))∧V4 a0 a1 a2 a3<qN∧V4 m0 m1 m2 m3=qN),ag4 (lm (inv0 (V4 a0 a1 a2 a3).toNat) 0) (lm (inv0 (V4 a0 a1 a2 a3).toNat) 1) (lm (inv0 (V4 a0 a1 a2 a3).toNat) 2) (lm (inv0 (V4 a0 a1 a2 a3).toNat) 3))
 | _,_=>none
theorem im_ok (args:List SV) (l:List (Nat×Reg)) (p:Ob) (v:SV) (h:rIm args l=some (p,v)) (hp:p.ok):∃U,execF cxIm U Tryz.f97 64 args (memL l) fun v' _=>∀β u,Den β v' u→Den β v u:=by
 unfold rIm at h
 split at h
 ·rename_i a0 a1 a2 a3 m0 m1 m2 m3
  simp only[Option.some.injEq,Prod.mk.injEq]at h
  obtain ⟨rfl,rfl⟩:=h
  obtain ⟨⟨wa,wm⟩,la,em⟩:=(show ((Wd a0∧Wd a1∧Wd a2∧Wd a3)∧(Wd m0∧Wd m1∧Wd m2∧Wd m3))∧V4 a0 a1 a2 a3<qN∧V4 m0 m1 m2 m3=qN from hp)
  have Ha:=ws_of wa.1 wa.2.1 wa.2.2.1 wa.2.2.2
  have Hm:=ws_of wm.1 wm.2.1 wm.2.2.1 wm.2.2.2
  rw[em,Int.toNat_natCast]at Hm
  have ea:=Ws.val Ha
  generalize (V4 a0 a1 a2 a3).toNat=A at *
  refine ⟨_,im_walk Ha Hm (by omega) (fun _ x0 x1 x2 x3 hx m β u hu=> ?_) (fun e m β u hu=> ?_)⟩
  ·obtain ⟨rfl,rfl,rfl,rfl,_⟩:=hx
   exact hu
  ·rw[e,inv0_zero]
   exact hu
 ·cases h
def cIm:Rd Tryz.prog:=mkQ mixed 97 Tryz.func97 (by decide) (by kernel_rfl) [] [.num,.num] rIm im_ok
end Go.Sx
