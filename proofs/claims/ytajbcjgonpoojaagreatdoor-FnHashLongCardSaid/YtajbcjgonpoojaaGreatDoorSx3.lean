/- Part 3 of the proof: for every message and domain the law FnHashLong returns true (a verified symbolic evaluator, contracts of each function reached, the law, its row and card). Conditions: those of the given statement, none besides. -/
import Derived.Test.YtajbcjgonpoojaaGreatDoorSx2
namespace Go.Sx
open Go Go.Proofs
set_option maxRecDepth 100000
set_option maxHeartbeats 4000000
theorem z128:([128,0,0,0,0,0,0,0,0,0,0,0,0,0,0,0,0,0,0,0,0,0,0,0,0,0,0,0,0,0,0,0,0,0,0,0,0,0,0,0,0,0,0,0,0,0,0,0,0,0,0,0,0,0,0,0,0,0,0,0,0,0,0,0,0,0,0,0,0,0,0,0]:List Int)=128::List.replicate 71 0:=rfl
theorem z32:([0,0,0,0,0,0,0,0,0,0,0,0,0,0,0,0,0,0,0,0,0,0,0,0,0,0,0,0,0,0,0,0]:List Int)=List.replicate 32 0:=rfl
theorem cs_walk (M:List Int) (H:S8) (xs:List Int) (nx len:Int) (K:SV→Mem→Prop) (hA:Abs M H xs nx len) (hM:M.length<2 ^ 39) (hup:KUp K)
  (hK:∀bs,bs=sha M→∀H' x' nx' len',K (.agg (picks .u8 bs 0 32)) (memL [(2,⟨true,.ints .u32 kL⟩),(9,dgR false H' x' nx' len')])):
  execF cxCs u0 Tryz.f162 64 [.ptr 9 (.lit 0)] (memL [(2,⟨true,.ints .u32 kL⟩),(9,dgR false H xs nx len)]) K:=by
 rw[vc_cs]
 have hlen:=hA.len
 rintro x0 rfl x1 hx1
 have e1:x1=(M.length%64:Nat):=by rw[hx1,hlen];exact_mod_cast rfl
 refine ⟨fun hlt=> ?_,fun hlt=> ?_⟩
 all_goals
  simp only[decide_eq_true_eq,decide_eq_false_iff_not]at hlt
  rintro x2 hx2 x3 hx3 x4 hx4 x5 hx5
  have e2:x2=(M.length%64:Nat):=by rw[hx2,←hx1,e1]
  have hpn:x3=padN M.length:=by
   rw[hx3,wrapu64 (by omega) (by omega)]
   unfold padN
   split<;>omega
  have hp1:1≤padN M.length:=by unfold padN;split<;>omega
  have hp2:padN M.length≤64:=by unfold padN;split<;>omega
  have hpm:(M.length+padN M.length+8)%64=0:=by unfold padN;split<;>omega
  rw[wrapu64 (by omega) (by omega)]at hx5
  have e5:x5.toNat=padN M.length+8:=by omega
  refine ⟨⟨by omega,by omega⟩,?_⟩
  rintro x6 hx6
  rw[wrapu64 (by omega) (by omega)]at hx6
  have e6:x6.toNat=padN M.length:=by omega
  rw[e5,e6,if_neg (by omega)]
  simp only[Nat.sub_zero,Nat.mul_one,Nat.add_sub_cancel_left,Nat.zero_add,List.drop_zero,z128]
  have e8:List.take 8 (List.drop (padN M.length) (128::List.replicate 71 (0:Int)))=List.replicate 8 0:=by
   obtain ⟨k,hk⟩:∃k,padN M.length=k+1:=⟨padN M.length-1,by omega⟩
   rw[hk,List.drop_succ_cons,List.drop_replicate,List.take_replicate]
   congr 1
   omega
  rw[e8]
  refine ⟨⟨by omega,by omega⟩,by omega,⟨by omega,by simp⟩,?_⟩
  rintro ys7 rfl
  refine ⟨rfl,?_,?_⟩
  ·show padN M.length+8≤72
   omega
  rintro ys8 rfl
  rw[wr8_eq]
  have hsl:(splice (128::List.replicate 71 0) (padN M.length) (len8 x4)).length=72:=by
   rw[splice_length]
   ·simp
   ·show padN M.length+8≤_
    simp
    omega
  have hpad:(splice (128::List.replicate 71 0) (padN M.length) (len8 x4)).take (padN M.length+8)=padding M.length:=by
   rw[pad_row hp1 hp2,hx4,hlen]
   rfl
  rw[hpad]
  have hpl:=padding_length M.length
  refine ⟨by rw[hsl];omega,M,⟨trivial,hA,padding_bytes _,hpl,by omega,by omega,by omega⟩,?_⟩
  rintro x10 x11 x12 x13 hB ys14 rfl x15 rfl
  have hl2:(M++padding M.length).length=M.length+padN M.length+8:=by rw[List.length_append,hpl];omega
  have h0:x15=0:=by rw[hB.nx,hl2,hpm];rfl
  subst h0
  refine ⟨fun h=>absurd h (by decide),fun _=> ?_⟩
  have hsha:out32 x10=sha M:=by rw[hB.h,hl2];rfl
  obtain ⟨a,b,c,d,e,f,g,h⟩:=x10
  dsimp only
  rintro x16 rfl
  refine ⟨by omega,⟨by omega,by omega⟩,?_⟩
  rintro ys17 rfl
  refine ⟨rfl,Nat.le_of_ble_eq_true rfl,?_⟩
  rintro ys18 h18
  obtain rfl:ys18=out4 x16++List.replicate 28 0:=h18
  rintro x19 rfl
  refine ⟨Nat.le_of_ble_eq_true rfl,⟨by omega,Nat.le_of_ble_eq_true rfl⟩,?_⟩
  rintro ys20 rfl
  refine ⟨rfl,Nat.le_of_ble_eq_true rfl,?_⟩
  rintro ys21 h21
  obtain rfl:ys21=out4 x16++out4 x19++List.replicate 24 0:=h21
  rintro x22 rfl
  refine ⟨Nat.le_of_ble_eq_true rfl,⟨by omega,Nat.le_of_ble_eq_true rfl⟩,?_⟩
  rintro ys23 rfl
  refine ⟨rfl,Nat.le_of_ble_eq_true rfl,?_⟩
  rintro ys24 h24
  obtain rfl:ys24=out4 x16++out4 x19++out4 x22++List.replicate 20 0:=h24
  rintro x25 rfl
  refine ⟨Nat.le_of_ble_eq_true rfl,⟨by omega,Nat.le_of_ble_eq_true rfl⟩,?_⟩
  rintro ys26 rfl
  refine ⟨rfl,Nat.le_of_ble_eq_true rfl,?_⟩
  rintro ys27 h27
  obtain rfl:ys27=out4 x16++out4 x19++out4 x22++out4 x25++List.replicate 16 0:=h27
  rintro x28 rfl
  refine ⟨Nat.le_of_ble_eq_true rfl,⟨by omega,Nat.le_of_ble_eq_true rfl⟩,?_⟩
  rintro ys29 rfl
  refine ⟨rfl,Nat.le_of_ble_eq_true rfl,?_⟩
  rintro ys30 h30
  obtain rfl:ys30=out4 x16++out4 x19++out4 x22++out4 x25++out4 x28++List.replicate 12 0:=h30
  rintro x31 rfl
  refine ⟨Nat.le_of_ble_eq_true rfl,⟨by omega,Nat.le_of_ble_eq_true rfl⟩,?_⟩
  rintro ys32 rfl
  refine ⟨rfl,Nat.le_of_ble_eq_true rfl,?_⟩
  rintro ys33 h33
  obtain rfl:ys33=out4 x16++out4 x19++out4 x22++out4 x25++out4 x28++out4 x31++List.replicate 8 0:=h33
  rintro x34 rfl
  refine ⟨Nat.le_of_ble_eq_true rfl,⟨by omega,Nat.le_of_ble_eq_true rfl⟩,?_⟩
  rintro ys35 rfl
  refine ⟨rfl,Nat.le_of_ble_eq_true rfl,?_⟩
  rintro ys36 h36
  obtain rfl:ys36=out4 x16++out4 x19++out4 x22++out4 x25++out4 x28++out4 x31++out4 x34++List.replicate 4 0:=h36
  rintro x37 rfl
  refine ⟨Nat.le_of_ble_eq_true rfl,⟨by omega,Nat.le_of_ble_eq_true rfl⟩,?_⟩
  rintro ys38 rfl
  refine ⟨rfl,Nat.le_of_ble_eq_true rfl,?_⟩
  rintro ys39 h39
  obtain h39:ys39=out32 ⟨x16,x19,x22,x25,x28,x31,x34,x37⟩:=h39
  rw[hsha]at h39
  refine ⟨by rw[h39];exact Nat.le_of_ble_eq_true rfl,?_⟩
  rintro x40 rfl x41 rfl x42 rfl x43 rfl x44 rfl x45 rfl x46 rfl x47 rfl x48 rfl x49 rfl x50 rfl x51 rfl x52 rfl x53 rfl x54 rfl x55 rfl x56 rfl x57 rfl x58 rfl x59 rfl x60 rfl x61 rfl x62 rfl x63 rfl x64 rfl x65 rfl x66 rfl x67 rfl x68 rfl x69 rfl x70 rfl x71 rfl
  have:=hK _ h39 ⟨x16,x19,x22,x25,x28,x31,x34,x37⟩ ys14 0 x13
  exact hup.le (memL_more (k:= [_,_,_]) (l:= [_,_]) [2,9,513,561,817] rfl (by decide)) this
end Go.Sx
namespace Go.Sx
open Go Go.Proofs
set_option maxRecDepth 100000
def gCs:G0:=fun args l K=>
 match args,l with
 | [.ptr 9 (.lit 0)],[(2,⟨true,.ints .u32 ks⟩),(9,⟨false,.segs [.cells [.int .u32 (.sym h0),.int .u32 (.sym h1),.int .u32 (.sym h2),.int .u32 (.sym h3),.int .u32 (.sym h4),.int .u32 (.sym h5),.int .u32 (.sym h6),.int .u32 (.sym h7)],.ints .u8 64 xs,.cells [.int .i64 (.sym nx),.int .u64 (.sym len),.bool (.lit false)]]⟩)]=>
  ∃M,(ks=kL∧Abs M ⟨h0,h1,h2,h3,h4,h5,h6,h7⟩ xs nx len∧M.length<2 ^ 39)∧
   ∀bs,bs=sha M→∀H' x' nx' len',K (.agg (picks .u8 bs 0 32)) (memL [(2,⟨true,.ints .u32 kL⟩),(9,dgR false H' x' nx' len')])
 | _,_=>False
theorem cs_good:Good gCs:=by
 constructor
 ·intro args l K K' hk h
  unfold gCs at h ⊢
  split at h
  ·obtain ⟨M,h1,h2⟩:=h
   exact ⟨M,h1,fun bs hb H' x' nx' len'=>hk _ _ (h2 bs hb H' x' nx' len')⟩
  ·exact h.elim
 ·intro args l K h
  unfold gCs at h
  split at h
  ·obtain ⟨M,h1,h2⟩:=h
   exact ⟨_,_,h2 _ rfl S0 [] 0 0⟩
  ·exact h.elim
theorem cs_ok (args:List SV) (l:List (Nat×Reg)) (K:SV→Mem→Prop) (hup:KUp K) (h:gCs args l K):∃U,execF cxCs U Tryz.f162 64 args (memL l) K:=by
 refine ⟨u0,?_⟩
 unfold gCs at h
 split at h
 ·rename_i ks h0 h1 h2 h3 h4 h5 h6 h7 xs nx len
  obtain ⟨M,⟨hk,k1,k2⟩,k3⟩:=h
  subst hk
  exact cs_walk M ⟨h0,h1,h2,h3,h4,h5,h6,h7⟩ xs nx len K k1 k2 hup k3
 ·exact h.elim
def cCs:Ef Tryz.prog:=mkE mixed 162 Tryz.func162 (by decide) (by kernel_rfl) [1] [.parts dgSh false] gCs cs_good cs_ok
def cxSum:Cx Tryz.prog:= { rds:= [],efs:= [cCs],eqs:= [] }
theorem vc_sum (H:S8) (xs:List Int) (nx len:Int) (K:SV→Mem→Prop):(execF cxSum u0 Tryz.f145 64 [.ptr 9 (.lit 0),.val (.slice none 0 0)] (memL [(2,⟨true,.ints .u32 kL⟩),(9,dgR true H xs nx len)]) K)=(∀g,g=S8.a H→∀h,
 h=S8.b H→∀i,i=S8.c H→∀j,j=S8.d H→∀k,k=S8.e H→∀l,l=S8.f H→∀m,m=S8.g H→∀n,n=S8.h H→∀o:Int,o=List.getD xs 0 (0:Int)→∀p:Int,p=List.getD xs 1 (0:Int)→∀q:Int,q=List.getD xs 2 (0:
 Int)→∀r:Int,r=List.getD xs 3 (0:Int)→∀s:Int,s=List.getD xs 4 (0:Int)→∀t:Int,t=List.getD xs 5 (0:Int)→∀u:Int,u=List.getD xs 6 (0:Int)→∀v:Int,v=List.getD xs 7 (0:Int)→∀w:Int,w=
 List.getD xs 8 (0:Int)→∀x:Int,x=List.getD xs 9 (0:Int)→∀y:Int,y=List.getD xs 10 (0:Int)→∀z:Int,z=List.getD xs 11 (0:Int)→∀A:Int,A=List.getD xs 12 (0:Int)→∀B:Int,B=List.getD xs 13 (0:Int)
 →∀C:Int,C=List.getD xs 14 (0:Int)→∀D:Int,D=List.getD xs 15 (0:Int)→∀E:Int,E=List.getD xs 16 (0:Int)→∀F:Int,F=List.getD xs 17 (0:Int)→∀G:Int,G=List.getD xs 18 (0:Int)→∀I:Int,I=
 List.getD xs 19 (0:Int)→∀J:Int,J=List.getD xs 20 (0:Int)→∀L:Int,L=List.getD xs 21 (0:Int)→∀M:Int,M=List.getD xs 22 (0:Int)→∀N:Int,N=List.getD xs 23 (0:Int)→∀O:Int,O=List.getD xs 24 (0:
 Int)→∀Q:Int,Q=List.getD xs 25 (0:Int)→∀R:Int,R=List.getD xs 26 (0:Int)→∀S:Int,S=List.getD xs 27 (0:Int)→∀T:Int,T=List.getD xs 28 (0:Int)→∀V:Int,V=List.getD xs 29 (0:Int)→∀X:Int,X=
 List.getD xs 30 (0:Int)→∀Y:Int,Y=List.getD xs 31 (0:Int)→∀Z:Int,Z=List.getD xs 32 (0:Int)→∀aa:Int,aa=List.getD xs 33 (0:Int)→∀ab:Int,ab=List.getD xs 34 (0:Int)→∀ac:Int,ac=List.getD xs 35 (0
 :Int)→∀ad:Int,ad=List.getD xs 36 (0:Int)→∀ae:Int,ae=List.getD xs 37 (0:Int)→∀af:Int,af=List.getD xs 38 (0:Int)→∀ag:Int,ag=List.getD xs 39 (0:Int)→∀ah:Int,ah=List.getD xs 40 (0:Int)→∀ai
 :Int,ai=List.getD xs 41 (0:Int)→∀aj:Int,aj=List.getD xs 42 (0:Int)→∀ak:Int,ak=List.getD xs 43 (0:Int)→∀al:Int,al=List.getD xs 44 (0:Int)→∀am:Int,am=List.getD xs 45 (0:Int)→∀an:Int,an=
 List.getD xs 46 (0:Int)→∀ao:Int,ao=List.getD xs 47 (0:Int)→∀ap:Int,ap=List.getD xs 48 (0:Int)→∀aq:Int,aq=List.getD xs 49 (0:Int)→∀ar:Int,ar=List.getD xs 50 (0:Int)→∀au:Int,au=List.getD xs
 51 (0:Int)→∀av:Int,av=List.getD xs 52 (0:Int)→∀aw:Int,aw=List.getD xs 53 (0:Int)→∀ax:Int,ax=List.getD xs 54 (0:Int)→∀ay:Int,ay=List.getD xs 55 (0:Int)→∀az:Int,az=List.getD xs 56 (0:Int)→
 ∀a0:Int,a0=List.getD xs 57 (0:Int)→∀a1:Int,a1=List.getD xs 58 (0:Int)→∀a2:Int,a2=List.getD xs 59 (0:Int)→∀a3:Int,a3=List.getD xs 60 (0:Int)→∀a4:Int,a4=List.getD xs 61 (0:Int)→∀a5:Int,a5
 =List.getD xs 62 (0:Int)→∀a6:Int,a6=List.getD xs 63 (0:Int)→∀a7,a7=nx→∀a8,a8=len→∃c:List Int,(kL=kL∧Abs c (S8.mk g h i j k l m n) [o,p,q,r,s,t,u,v,w,x,y,z,A,B,C,D,E,F,G,I,J,L,M,N,
 O,Q,R,S,T,V,X,Y,Z,aa,ab,ac,ad,ae,af,ag,ah,ai,aj,ak,al,am,an,ao,ap,aq,ar,au,av,aw,ax,ay,az,a0,a1,a2,a3,a4,a5,a6] a7 a8∧c.length<549755813888)∧∀a:List Int,a=sha c→∀(b:S8) (bb:List
 Int) (a9 ba:Int) (d:List Int),d=bb→(True∧Nat.le (32:Nat) (List.length [List.getD a 0 (0:Int),List.getD a 1 (0:Int),List.getD a 2 (0:Int),List.getD a 3 (0:Int),List.getD a 4 (0:Int),List.getD a 5 (0:Int),
 List.getD a 6 (0:Int),List.getD a 7 (0:Int),List.getD a 8 (0:Int),List.getD a 9 (0:Int),List.getD a 10 (0:Int),List.getD a 11 (0:Int),List.getD a 12 (0:Int),List.getD a 13 (0:Int),List.getD a 14 (0:Int),List.getD
 a 15 (0:Int),List.getD a 16 (0:Int),List.getD a 17 (0:Int),List.getD a 18 (0:Int),List.getD a 19 (0:Int),List.getD a 20 (0:Int),List.getD a 21 (0:Int),List.getD a 22 (0:Int),List.getD a 23 (0:Int),List.getD a 24
 (0:Int),List.getD a 25 (0:Int),List.getD a 26 (0:Int),List.getD a 27 (0:Int),List.getD a 28 (0:Int),List.getD a 29 (0:Int),List.getD a 30 (0:Int),List.getD a 31 (0:Int)])∧(32:Nat)≤(549755813888:Nat)∧(32:
 Nat)≤(549755813888:Nat))∧((32:Nat)=(0:Nat)→K (.val (.slice none 0 0)) (memL [(2,⟨true,.ints .u32 kL⟩),(9,⟨true,.segs [.cells [.int .u32 (.sym (S8.a H)),.int .u32 (.sym (S8.b H)),.int .u32 (.sym (S8.c H)),.int .u32
 (.sym (S8.d H)),.int .u32 (.sym (S8.e H)),.int .u32 (.sym (S8.f H)),.int .u32 (.sym (S8.g H)),.int .u32 (.sym (S8.h H))],.ints .u8 64 xs,.cells [.int .i64 (.sym nx),.int .u64 (.sym len),.bool (.lit false)]]⟩),(545,⟨false,.segs
 [.cells [.int .u32 (.sym (S8.a b)),.int .u32 (.sym (S8.b b)),.int .u32 (.sym (S8.c b)),.int .u32 (.sym (S8.d b)),.int .u32 (.sym (S8.e b)),.int .u32 (.sym (S8.f b)),.int .u32 (.sym (S8.g b)),.int .u32 (.sym (S8.h b))],.ints .u8 64
 d,.cells [.int .i64 (.sym a9),.int .u64 (.sym ba),.bool (.lit false)]]⟩),(569,⟨false,.cells [.int .u8 (.sym (List.getD a 0 (0:Int))),.int .u8 (.sym (List.getD a 1 (0:Int))),.int .u8 (.sym (List.getD a 2 (0:Int))),.int .u8
 (.sym (List.getD a 3 (0:Int))),.int .u8 (.sym (List.getD a 4 (0:Int))),.int .u8 (.sym (List.getD a 5 (0:Int))),.int .u8 (.sym (List.getD a 6 (0:Int))),.int .u8 (.sym (List.getD a 7 (0:Int))),.int .u8 (.sym (List.getD a 8 (0
 :Int))),.int .u8 (.sym (List.getD a 9 (0:Int))),.int .u8 (.sym (List.getD a 10 (0:Int))),.int .u8 (.sym (List.getD a 11 (0:Int))),.int .u8 (.sym (List.getD a 12 (0:Int))),.int .u8 (.sym (List.getD a 13 (0:Int))),.int .u8
 (.sym (List.getD a 14 (0:Int))),.int .u8 (.sym (List.getD a 15 (0:Int))),.int .u8 (.sym (List.getD a 16 (0:Int))),.int .u8 (.sym (List.getD a 17 (0:Int))),.int .u8 (.sym (List.getD a 18 (0:Int))),.int .u8 (.sym (List.getD a
 19 (0:Int))),.int .u8 (.sym (List.getD a 20 (0:Int))),.int .u8 (.sym (List.getD a 21 (0:Int))),.int .u8 (.sym (List.getD a 22 (0:Int))),.int .u8 (.sym (List.getD a 23 (0:Int))),.int .u8 (.sym (List.getD a 24 (0:Int))),
 .int .u8 (.sym (List.getD a 25 (0:Int))),.int .u8 (.sym (List.getD a 26 (0:Int))),.int .u8 (.sym (List.getD a 27 (0:Int))),.int .u8 (.sym (List.getD a 28 (0:Int))),.int .u8 (.sym (List.getD a 29 (0:Int))),.int .u8 (.sym
 (List.getD a 30 (0:Int))),.int .u8 (.sym (List.getD a 31 (0:Int)))]⟩)]))∧((0:Nat)<(32:Nat)→∀(e:Nat) (f:List Int),32≤e∧f.length=e*1∧List.take 32 f= []++List.take 32 (List.drop 0 [List.getD a 0 (0:Int),
 List.getD a 1 (0:Int),List.getD a 2 (0:Int),List.getD a 3 (0:Int),List.getD a 4 (0:Int),List.getD a 5 (0:Int),List.getD a 6 (0:Int),List.getD a 7 (0:Int),List.getD a 8 (0:Int),List.getD a 9 (0:Int),List.getD a 10
 (0:Int),List.getD a 11 (0:Int),List.getD a 12 (0:Int),List.getD a 13 (0:Int),List.getD a 14 (0:Int),List.getD a 15 (0:Int),List.getD a 16 (0:Int),List.getD a 17 (0:Int),List.getD a 18 (0:Int),List.getD a 19 (0:
 Int),List.getD a 20 (0:Int),List.getD a 21 (0:Int),List.getD a 22 (0:Int),List.getD a 23 (0:Int),List.getD a 24 (0:Int),List.getD a 25 (0:Int),List.getD a 26 (0:Int),List.getD a 27 (0:Int),List.getD a 28 (0:Int),
 List.getD a 29 (0:Int),List.getD a 30 (0:Int),List.getD a 31 (0:Int)])→K (.slice 617 (.lit 0) (.lit 32) (.sym e)) (memL [(2,⟨true,.ints .u32 kL⟩),(9,⟨true,.segs [.cells [.int .u32 (.sym (S8.a H)),.int .u32 (.sym (S8.b H)),
 .int .u32 (.sym (S8.c H)),.int .u32 (.sym (S8.d H)),.int .u32 (.sym (S8.e H)),.int .u32 (.sym (S8.f H)),.int .u32 (.sym (S8.g H)),.int .u32 (.sym (S8.h H))],.ints .u8 64 xs,.cells [.int .i64 (.sym nx),.int .u64 (.sym len),.bool
 (.lit false)]]⟩),(545,⟨false,.segs [.cells [.int .u32 (.sym (S8.a b)),.int .u32 (.sym (S8.b b)),.int .u32 (.sym (S8.c b)),.int .u32 (.sym (S8.d b)),.int .u32 (.sym (S8.e b)),.int .u32 (.sym (S8.f b)),.int .u32 (.sym (S8.g b)),
 .int .u32 (.sym (S8.h b))],.ints .u8 64 d,.cells [.int .i64 (.sym a9),.int .u64 (.sym ba),.bool (.lit false)]]⟩),(569,⟨false,.cells [.int .u8 (.sym (List.getD a 0 (0:Int))),.int .u8 (.sym (List.getD a 1 (0:Int))),.int .u8
 (.sym (List.getD a 2 (0:Int))),.int .u8 (.sym (List.getD a 3 (0:Int))),.int .u8 (.sym (List.getD a 4 (0:Int))),.int .u8 (.sym (List.getD a 5 (0:Int))),.int .u8 (.sym (List.getD a 6 (0:Int))),.int .u8 (.sym (List.getD a 7 (0
 :Int))),.int .u8 (.sym (List.getD a 8 (0:Int))),.int .u8 (.sym (List.getD a 9 (0:Int))),.int .u8 (.sym (List.getD a 10 (0:Int))),.int .u8 (.sym (List.getD a 11 (0:Int))),.int .u8 (.sym (List.getD a 12 (0:Int))),.int .u8
 (.sym (List.getD a 13 (0:Int))),.int .u8 (.sym (List.getD a 14 (0:Int))),.int .u8 (.sym (List.getD a 15 (0:Int))),.int .u8 (.sym (List.getD a 16 (0:Int))),.int .u8 (.sym (List.getD a 17 (0:Int))),.int .u8 (.sym (List.getD a
 18 (0:Int))),.int .u8 (.sym (List.getD a 19 (0:Int))),.int .u8 (.sym (List.getD a 20 (0:Int))),.int .u8 (.sym (List.getD a 21 (0:Int))),.int .u8 (.sym (List.getD a 22 (0:Int))),.int .u8 (.sym (List.getD a 23 (0:Int))),
 .int .u8 (.sym (List.getD a 24 (0:Int))),.int .u8 (.sym (List.getD a 25 (0:Int))),.int .u8 (.sym (List.getD a 26 (0:Int))),.int .u8 (.sym (List.getD a 27 (0:Int))),.int .u8 (.sym (List.getD a 28 (0:Int))),.int .u8 (.sym
 (List.getD a 29 (0:Int))),.int .u8 (.sym (List.getD a 30 (0:Int))),.int .u8 (.sym (List.getD a 31 (0:Int)))]⟩),(617,⟨false,.ints .u8 f⟩)]))):=by kernel_rfl
theorem list64 {xs:List Int} (h:xs.length=64): [xs.getD 0 0,xs.getD 1 0,xs.getD 2 0,xs.getD 3 0,xs.getD 4 0,xs.getD 5 0,xs.getD 6 0,xs.getD 7 0,xs.getD 8 0,xs.getD 9 0,xs.getD 10 0,xs.getD 11 0,xs.getD 12 0,xs.getD 13 0,xs.getD 14 0,xs.getD 15 0,xs.getD 16 0,xs.getD 17 0,xs.getD 18 0,xs.getD 19 0,xs.getD 20 0,xs.getD 21 0,xs.getD 22 0,xs.getD 23 0,xs.getD 24 0,xs.getD 25 0,xs.getD 26 0,xs.getD 27 0,xs.getD 28 0,xs.getD 29 0,xs.getD 30 0,xs.getD 31 0,xs.getD 32 0,xs.getD 33 0,xs.getD 34 0,xs.getD 35 0,xs.getD 36 0,xs.getD 37 0,xs.getD 38 0,xs.getD 39 0,xs.getD 40 0,xs.getD 41 0,xs.getD 42 0,xs.getD 43 0,xs.getD 44 0,xs.getD 45 0,xs.getD 46 0,xs.getD 47 0,xs.getD 48 0,xs.getD 49 0,xs.getD 50 0,xs.getD 51 0,xs.getD 52 0,xs.getD 53 0,xs.getD 54 0,xs.getD 55 0,xs.getD 56 0,xs.getD 57 0,xs.getD 58 0,xs.getD 59 0,xs.getD 60 0,xs.getD 61 0,xs.getD 62 0,xs.getD 63 0]=xs:=by
 apply List.ext_getElem
 ·simpa using h.symm
 ·intro i h1 h2
  simp only[List.length_cons,List.length_nil]at h1
  have hi:i<64:=by omega
  have:∀j:Nat,j<64→(hj:j<xs.length)→((List.range 64).map (fun k=>xs.getD k 0))[j]? =some (xs[j]):=by
   intro j hj hj2
   simp[hj,List.getD_eq_getElem?_getD,List.getElem?_eq_getElem hj2]
  have h3:=this i hi h2
  have h4:∀l:List Int,l=(List.range 64).map (fun k=>xs.getD k 0)→∀(hl:i<l.length),l[i]=xs[i]:=by
   rintro l rfl hl
   rw[List.getElem?_eq_getElem hl]at h3
   exact Option.some.inj h3
  exact h4 _ rfl h1
theorem list32 {xs:List Int} (h:xs.length=32): [xs.getD 0 0,xs.getD 1 0,xs.getD 2 0,xs.getD 3 0,xs.getD 4 0,xs.getD 5 0,xs.getD 6 0,xs.getD 7 0,xs.getD 8 0,xs.getD 9 0,xs.getD 10 0,xs.getD 11 0,xs.getD 12 0,xs.getD 13 0,xs.getD 14 0,xs.getD 15 0,xs.getD 16 0,xs.getD 17 0,xs.getD 18 0,xs.getD 19 0,xs.getD 20 0,xs.getD 21 0,xs.getD 22 0,xs.getD 23 0,xs.getD 24 0,xs.getD 25 0,xs.getD 26 0,xs.getD 27 0,xs.getD 28 0,xs.getD 29 0,xs.getD 30 0,xs.getD 31 0]=xs:=by
 apply List.ext_getElem
 ·simpa using h.symm
 ·intro i h1 h2
  simp only[List.length_cons,List.length_nil]at h1
  have hi:i<32:=by omega
  have:∀j:Nat,j<32→(hj:j<xs.length)→((List.range 32).map (fun k=>xs.getD k 0))[j]? =some (xs[j]):=by
   intro j hj hj2
   simp[hj,List.getD_eq_getElem?_getD,List.getElem?_eq_getElem hj2]
  have h3:=this i hi h2
  have h4:∀l:List Int,l=(List.range 32).map (fun k=>xs.getD k 0)→∀(hl:i<l.length),l[i]=xs[i]:=by
   rintro l rfl hl
   rw[List.getElem?_eq_getElem hl]at h3
   exact Option.some.inj h3
  exact h4 _ rfl h1
def gSum:G0:=fun args l K=>
 match args,l with
 | [.ptr 9 (.lit 0),.val (.slice none 0 0)],[(2,⟨true,.ints .u32 ks⟩),(9,⟨true,.segs [.cells [.int .u32 (.sym h0),.int .u32 (.sym h1),.int .u32 (.sym h2),.int .u32 (.sym h3),.int .u32 (.sym h4),.int .u32 (.sym h5),.int .u32 (.sym h6),.int .u32 (.sym h7)],.ints .u8 64 xs,.cells [.int .i64 (.sym nx),.int .u64 (.sym len),.bool (.lit false)]]⟩)]=>
  ∃M,(ks=kL∧Abs M ⟨h0,h1,h2,h3,h4,h5,h6,h7⟩ xs nx len∧M.length<2 ^ 39)∧
   ∀ys cap,ys.take 32=sha M∧ys.length=cap∧32≤cap→K (.slice 617 (.lit 0) (.lit 32) (.sym cap)) (memL [(2,⟨true,.ints .u32 kL⟩),(9,dgR true ⟨h0,h1,h2,h3,h4,h5,h6,h7⟩ xs nx len),(617,⟨false,.ints .u8 ys⟩)])
 | _,_=>False
theorem sum_good:Good gSum:=by
 constructor
 ·intro args l K K' hk h
  unfold gSum at h ⊢
  split at h
  ·obtain ⟨M,h1,h2⟩:=h
   exact ⟨M,h1,fun ys cap hy=>hk _ _ (h2 ys cap hy)⟩
  ·exact h.elim
 ·intro args l K h
  unfold gSum at h
  split at h
  ·obtain ⟨M,h1,h2⟩:=h
   exact ⟨_,_,h2 (sha M) 32 ⟨rfl,rfl,Nat.le_refl _⟩⟩
  ·exact h.elim
set_option maxHeartbeats 4000000
theorem sum_ok (args:List SV) (l:List (Nat×Reg)) (K:SV→Mem→Prop) (hup:KUp K) (h:gSum args l K):∃U,execF cxSum U Tryz.f145 64 args (memL l) K:=by
 refine ⟨u0,?_⟩
 unfold gSum at h
 split at h
 ·rename_i ks h0 h1 h2 h3 h4 h5 h6 h7 xs nx len
  obtain ⟨M,⟨hk,k1,k2⟩,k3⟩:=h
  subst hk
  have:=vc_sum ⟨h0,h1,h2,h3,h4,h5,h6,h7⟩ xs nx len K
  unfold dgR i32 at this
  rw[this]
  rintro x0 rfl x1 rfl x2 rfl x3 rfl x4 rfl x5 rfl x6 rfl x7 rfl x8 rfl x9 rfl x10 rfl x11 rfl x12 rfl x13 rfl x14 rfl x15 rfl x16 rfl x17 rfl x18 rfl x19 rfl x20 rfl x21 rfl x22 rfl x23 rfl x24 rfl x25 rfl x26 rfl x27 rfl x28 rfl x29 rfl x30 rfl x31 rfl x32 rfl x33 rfl x34 rfl x35 rfl x36 rfl x37 rfl x38 rfl x39 rfl x40 rfl x41 rfl x42 rfl x43 rfl x44 rfl x45 rfl x46 rfl x47 rfl x48 rfl x49 rfl x50 rfl x51 rfl x52 rfl x53 rfl x54 rfl x55 rfl x56 rfl x57 rfl x58 rfl x59 rfl x60 rfl x61 rfl x62 rfl x63 rfl x64 rfl x65 rfl x66 rfl x67 rfl x68 rfl x69 rfl x70 rfl x71 rfl x72 rfl x73 rfl
  rw[list64 k1.xl]
  refine ⟨M,⟨rfl,k1,k2⟩,?_⟩
  rintro bs hbs x76 x77 x78 x79 ys80 rfl
  have hbl:bs.length=32:=by rw[hbs];rfl
  rw[list32 hbl]
  refine ⟨⟨trivial,by rw[hbl];exact Nat.le_refl _,by omega,by omega⟩,fun h=>absurd h (by omega),fun _=> ?_⟩
  rintro cap ys ⟨hc,hr,ht⟩
  rw[Nat.mul_one]at hr
  have hb:List.take 32 (List.drop 0 bs)=bs:=by rw[List.drop_zero,List.take_of_length_le (by omega)]
  rw[hb,List.nil_append,hbs]at ht
  refine hup.le (memL_sub [2,9,545,569,617] rfl (by decide) ?_) (k3 ys cap ⟨ht,hr,hc⟩)
  intro x hx
  simp only[List.mem_cons,List.not_mem_nil,or_false]at hx ⊢
  rcases hx with h | h | h
  ·exact .inl h
  ·exact .inr (.inl h)
  ·exact .inr (.inr (.inr (.inr h)))
 ·exact h.elim
def cSum:Ef Tryz.prog:=mkE mixed 145 Tryz.func145 (by decide) (by kernel_rfl) [1] [.parts dgSh true,.sl 1 false] gSum sum_good sum_ok
theorem vc_errn (b:ByteArray) (K:SV→Mem→Prop):(execF cx0 u0 Tryz.f119 64 [.val (.string b)] (memL []) K)=K (.iface 155 (.ptr 537 (.lit 0))) (memL [(537,⟨false,.cells [.val (.string b)]⟩)]):=by kernel_rfl
def gErr:G0:=fun args l K=>
 match args,l with
 | [.val (.string b)],[]=>K (.iface 155 (.ptr 537 (.lit 0))) (memL [(537,⟨false,.cells [.val (.string b)]⟩)])
 | _,_=>False
theorem err_good:Good gErr:=by
 constructor
 ·intro args l K K' hk h
  unfold gErr at h ⊢
  split at h
  ·exact hk _ _ h
  ·exact h.elim
 ·intro args l K h
  unfold gErr at h
  split at h
  ·exact ⟨_,_,h⟩
  ·exact h.elim
theorem err_ok (args:List SV) (l:List (Nat×Reg)) (K:SV→Mem→Prop) (_:KUp K) (h:gErr args l K):∃U,execF cx0 U Tryz.f119 64 args (memL l) K:=by
 refine ⟨u0,?_⟩
 unfold gErr at h
 split at h
 ·rw[vc_errn]
  exact h
 ·exact h.elim
def cErr:Ef Tryz.prog:=mkE mixed 119 Tryz.func119 (by decide) (by kernel_rfl) [] [.val] gErr err_good err_ok
end Go.Sx
namespace Go.Sx
open Go
def xorL (a b:List Int):List Int:=(List.range 32).map fun k=>bxor .u8 (a.getD k 0) (b.getD k 0)
def bI (first D:List Int):Nat→List Int
 | 0=>List.replicate 32 0
 | i+1=>sha (xorL first (bI first D i)++ [IntKind.u8.wrap ((i:Int)+1)]++D)
def outN (first D:List Int):Nat→List Int
 | 0=> []
 | i+1=>outN first D i++bI first D (i+1)
def domL (dst:List Int):List Int:=dst++ [IntKind.u8.wrap (dst.length:Nat)]
def firstL (msg dst:List Int) (n:Int):List Int:=sha (List.replicate 64 0++msg++ [IntKind.u8.wrap (IntKind.i64.wrap (Int.tdiv n 256)),IntKind.u8.wrap n,0]++domL dst)
def expand (msg dst:List Int) (n:Nat):List Int:=(outN (firstL msg dst n) (domL dst) ((n+31) / 32)).take n
theorem xorL_length (a b:List Int):(xorL a b).length=32:=by simp[xorL]
theorem xorL_bytes (a b:List Int):Bytes (xorL a b):=by
 intro x hx
 unfold xorL at hx
 obtain ⟨k,_,rfl⟩:=List.mem_map.1 hx
 exact u8_range _
theorem bI_length (first D:List Int):∀i,(bI first D i).length=32
 | 0=>by simp[bI]
 | i+1=>rfl
theorem bI_bytes (first D:List Int):∀i,Bytes (bI first D i)
 | 0=>by intro x hx;simp[bI]at hx;omega
 | i+1=>sha_bytes _
theorem outN_length (first D:List Int):∀i,(outN first D i).length=32*i
 | 0=>rfl
 | i+1=>by simp[outN,outN_length first D i,bI_length];omega
theorem domL_length (dst:List Int):(domL dst).length=dst.length+1:=by simp[domL]
theorem domL_bytes {dst:List Int} (h:Bytes dst):Bytes (domL dst):=by
 refine h.append ?_
 intro x hx
 simp only[List.mem_cons,List.not_mem_nil,or_false]at hx
 rw[hx]
 exact u8_range _
theorem outN_prefix (first D:List Int) {i j:Nat} (h:i≤j) {n:Nat} (hn:n≤32*i):(outN first D j).take n=(outN first D i).take n:=by
 induction j with
 | zero=>rw[show i=0 by omega]
 | succ j ih=>
  rcases Nat.lt_or_ge i (j+1)with hlt | hge
  ·rw[outN,List.take_append_of_le_length (by rw[outN_length];omega)]
   exact ih (by omega)
  ·rw[show i=j+1 by omega]
theorem xorL_congr {a a' b b':List Int} (ha:a.take 32=a'.take 32) (hb:b.take 32=b'.take 32):xorL a b=xorL a' b':=by
 unfold xorL
 apply List.map_congr_left
 intro k hk
 have hk:=List.mem_range.1 hk
 have e:∀x y:List Int,x.take 32=y.take 32→x.getD k 0=y.getD k 0:=by
  intro x y h
  have:=congrArg (fun l=>l.getD k 0) h
  simpa [List.getD_eq_getElem?_getD,List.getElem?_take,hk]using this
 rw[e _ _ ha,e _ _ hb]
theorem xorL_take {a b:List Int} {k:Nat} (h:k<32):(xorL a b).take (k+1)=(xorL a b).take k++ [bxor .u8 (a.getD k 0) (b.getD k 0)]:=by
 rw[List.take_add_one]
 congr 1
 unfold xorL
 simp[h]
end Go.Sx
namespace Go.Sx
open Go Go.Proofs
def i64n (n:Nat):SV:= .int .i64 (.sym (n:Nat))
structure Rw (ys xs:List Int) (n cap:Nat):Prop where
 xl:xs.length=n
 le:n≤cap
 len:ys.length=cap
 row:ys.take n=xs
theorem Rw.self (xs:List Int):Rw xs xs xs.length xs.length:=⟨rfl,Nat.le_refl _,rfl,List.take_of_length_le (Nat.le_refl _)⟩
theorem Rw.step {ys xs zs us:List Int} {n m cap cap':Nat} (h:Rw ys xs n cap) (hz:zs.length=m) (hc:n+m≤cap') (hl:us.length=cap') (ht:us.take (n+m)=ys.take n++zs):Rw us (xs++zs) (n+m) cap':=
 ⟨by rw[List.length_append,h.xl,hz],hc,hl,by rw[ht,h.row]⟩
theorem Rw.first {ys xs:List Int} {n cap:Nat} (hx:xs.length=n) (h:0+n≤cap∧ys.length=cap*1∧ys.take ((0+n)*1)=List.take 0 (List.drop 0 [])++List.take (n*1) (List.drop 0 xs)):Rw ys xs n cap:=by
 simp only[Nat.zero_add,Nat.mul_one,List.drop_zero,List.take_zero,List.nil_append]at h
 exact ⟨hx,h.1,h.2.1,by rw[h.2.2,List.take_of_length_le (by omega)]⟩
theorem Rw.next {ys xs zs us:List Int} {n m cap cap':Nat} (h:Rw ys xs n cap) (hz:zs.length=m) (hu:n+m≤cap'∧us.length=cap'*1∧us.take ((n+m)*1)=List.take (n*1) (List.drop 0 ys)++List.take (m*1) (List.drop 0 zs)):
  Rw us (xs++zs) (n+m) cap':=by
 simp only[Nat.mul_one,List.drop_zero]at hu
 exact h.step hz hu.1 hu.2.1 (by rw[hu.2.2,List.take_of_length_le (by omega:zs.length≤m)])
theorem Rw.fits {ys xs:List Int} {n cap:Nat} (h:Rw ys xs n cap):n≤cap∧0+cap*1≤ys.length:=⟨h.le,by rw[h.len];omega⟩
theorem Rw.nothing {ys xs us:List Int} {n cap cap':Nat} (h:Rw ys xs n cap) (hu:n+0≤cap'∧us.length=cap'*1∧us.take ((n+0)*1)=List.take (n*1) (List.drop 0 ys)++ []):
  Rw us xs (n+0) cap':=by
 have:=h.next (zs:= []) (m:=0) rfl (by simpa using hu)
 rwa [List.append_nil]at this
theorem take1 (xs:List Int) {l:Nat} (h:xs.length=l):List.take (l*1) (List.drop 0 xs)=xs:=by
 rw[Nat.mul_one,List.drop_zero,List.take_of_length_le (by omega)]
theorem Rw.take1 {ys xs:List Int} {n cap:Nat} (h:Rw ys xs n cap):List.take (n*1) (List.drop 0 ys)=xs:=by
 rw[Nat.mul_one,List.drop_zero,h.row]
theorem Rw.getD {ys xs:List Int} {n cap k:Nat} (h:Rw ys xs n cap) (hk:k<n):ys.getD k 0=xs.getD k 0:=by
 rw[←h.row]
 simp[List.getD_eq_getElem?_getD,List.getElem?_take,hk]
theorem Rw.cut {ys xs:List Int} {n m cap:Nat} (h:Rw ys xs n cap) (hm:m≤n):Rw ys (xs.take m) m cap:=
 ⟨by rw[List.length_take,h.xl];omega,Nat.le_trans hm h.le,h.len,by rw[←h.row,List.take_take,Nat.min_eq_left hm]⟩
theorem bytes3 {x y:Int}:Bytes [IntKind.u8.wrap x,IntKind.u8.wrap y,0]:=by
 intro z hz
 simp only[List.mem_cons,List.not_mem_nil,or_false]at hz
 rcases hz with rfl | rfl | rfl
 ·exact u8_range _
 ·exact u8_range _
 ·omega
theorem bytes1 {x:Int}:Bytes [IntKind.u8.wrap x]:=by
 intro z hz
 simp only[List.mem_cons,List.not_mem_nil,or_false]at hz
 rw[hz]
 exact u8_range _
theorem bytes0 (n:Nat):Bytes (List.replicate n 0):=by
 intro z hz
 rw[(List.mem_replicate.1 hz).2]
 omega
theorem expand_eq {msg dst:List Int} {n i:Nat} (h1:n≤32*i) (h2:32*i<n+32):expand msg dst n=(outN (firstL msg dst n) (domL dst) i).take n:=by
 unfold expand
 rw[show (n+31) / 32=i by omega]
theorem expand_length (msg dst:List Int) (n:Nat):(expand msg dst n).length=n:=by
 unfold expand
 rw[List.length_take,outN_length]
 omega
theorem expand_bytes (msg dst:List Int) (n:Nat):Bytes (expand msg dst n):=by
 unfold expand
 refine Bytes.take ?_ _
 generalize (n+31) / 32=k
 induction k with
 | zero=>exact Bytes.nil
 | succ k ih=>exact ih.append (bI_bytes _ _ _)
def cxEX:Cx Tryz.prog:= { rds:= [cSize,cBsz],efs:= [cNew,cReset,cWrite,cSum,cErr],eqs:= [] }
structure ExI where
 j:Nat
 b:List Int
 bc:Nat
 res:List Int
 H:S8
 x:List Int
 nx:Int
 len:Int
def liEX0 (rd:Nat) (first D:List Int) (n:Int):LI where
 ι:=ExI
 keep:= [1,2,8,9,10,21,31]
 keepR:= [2,rd,1177]
 F:=fun i=>⟨[(30,.slice 1641 (.lit 0) (.lit 32) (.sym i.bc)),(32,.int .i64 (.sym ((i.j:Nat)+1)))],
  [(529,dgR false i.H i.x i.nx i.len),(1641,⟨false,.ints .u8 i.b⟩),(1569,⟨false,.ints .u8 i.res⟩)]⟩
 I:=fun _ i=>1≤i.j∧32*(i.j:Int)<n+32∧Rw i.b (bI first D i.j) 32 i.bc∧(i.res.length:Int)=n∧i.res.take (32*i.j)=(outN first D i.j).take n.toNat∧i.x.length=64
 μ:=fun i=>n.toNat+32-32*i.j
 k:=1
def liEX2 (rd:Nat):LI where
 ι:=Nat×List Int
 keep:= [1,2,8,9,10,21,30,31,32,33]
 keepR:= [2,rd,529,1177,1569,1641]
 F:=fun i=>⟨[(34,i64n i.1)],[(1705,⟨false,.ints .u8 i.2⟩)]⟩
 I:=fun st i=>i.2.length=32∧i.2.take i.1=(xorL (st.reg 1177) (st.reg 1641)).take i.1∧i.1≤32
 μ:=fun i=>32-i.1
def uEX (rd:Nat) (msg dst:List Int) (n:Int):Nat→Lp:=fun b=>
 match b with
 | 0=> .inv (liEX0 rd (firstL msg dst n) (domL dst) n)
 | 2=> .inv (liEX2 rd)
 | _=> .un 0
end Go.Sx
namespace Go.Sx
open Go Go.Proofs
set_option maxRecDepth 100000
theorem vc_ex (msg dst:List Int) (l c l2 c2:Nat) (n:Int) (K:SV→Mem→Prop):(execF cxEX (uEX 17 msg dst n) Tryz.f100 64 [.slice 9 (.lit 0) (.sym l) (.sym c),.slice 17 (.lit 0) (.sym l2) (.sym c2),.int .i64 (.sym n)] (memL [(2,
 ⟨true,.ints .u32 kL⟩),(9,⟨true,.ints .u8 msg⟩),(17,⟨true,.ints .u8 dst⟩)]) K)=(∀G:List Int,G=List.replicate 64 (0:Int)→∀x1,x1=IntKind.wrap IntKind.i64 (n+32)→∀x2,x2=IntKind.wrap IntKind.i64 (x1-1)→∀j,j
 =IntKind.wrap IntKind.i64 (Int.tdiv x2 (32:Int))→(decide (j>255)=true→K (.tup [.val (.slice none 0 0),.iface 155 (.ptr 633 (.lit 0))]) (memL [(2,⟨true,.ints .u32 kL⟩),(9,⟨true,.ints .u8 msg⟩),(17,⟨true,.ints .u8 dst⟩),
 (529,⟨false,.segs [.cells [.int .u32 (.sym 1779033703),.int .u32 (.sym 3144134277),.int .u32 (.sym 1013904242),.int .u32 (.sym 2773480762),.int .u32 (.sym 1359893119),.int .u32 (.sym 2600822924),.int .u32 (.sym 528734635),.int
 .u32 (.sym 1541459225)],.ints .u8 64 G,.cells [.int .i64 (.sym 0),.int .u64 (.sym 0),.bool (.lit false)]]⟩),(633,⟨false,.cells [.val (.string ⟨⟨[105,110,118,97,108,105,100,32,108,101,110,73,110,66,121,116,101,
 115]⟩⟩)]⟩)]))∧(decide (j>255)=false→∀J:Int,J=((l2:Nat):Int)→(decide (J>255)=true→K (.tup [.val (.slice none 0 0),.iface 155 (.ptr 657 (.lit 0))]) (memL [(2,⟨true,.ints .u32 kL⟩),(9,⟨true,.ints .u8 msg⟩),(17,
 ⟨true,.ints .u8 dst⟩),(529,⟨false,.segs [.cells [.int .u32 (.sym 1779033703),.int .u32 (.sym 3144134277),.int .u32 (.sym 1013904242),.int .u32 (.sym 2773480762),.int .u32 (.sym 1359893119),.int .u32 (.sym 2600822924),.int .u32
 (.sym 528734635),.int .u32 (.sym 1541459225)],.ints .u8 64 G,.cells [.int .i64 (.sym 0),.int .u64 (.sym 0),.bool (.lit false)]]⟩),(657,⟨false,.cells [.val (.string ⟨⟨[105,110,118,97,108,105,100,32,100,111,109,97,105,
 110,32,115,105,122,101,32,40,62,50,53,53,32,98,121,116,101,115,41]⟩⟩)]⟩)]))∧(decide (J>255)=false→∀x5:Int,x5=((l2:Nat):Int)→∀f,f=IntKind.wrap IntKind.u8 x5→∀ax:List Int,ax=G→((0:Int)≤
 (64:Int)∧(64:Int)≤(140737488355328:Int)∧(64:Int)≤(140737488355328:Int))∧((64:Nat)≤(64:Nat)∧∃L:List Int,(kL=kL∧Abs L (S8.mk (1779033703:Int) (3144134277:Int) (1013904242:Int) (2773480762:Int)
 (1359893119:Int) (2600822924:Int) (528734635:Int) (1541459225:Int)) ax (0:Int) (0:Int)∧Bytes (List.take 64 (List.drop 0 (List.replicate 64 (0:Int))))∧(64:Nat)=(64:Nat)∧(64:Nat)≤(64:Nat)∧(64:Nat)≤(65536
 :Nat)∧L.length<1099511627776)∧∀(o:S8) (ay:List Int) (az a0:Int),Abs (L++List.take 64 (List.drop 0 (List.replicate 64 (0:Int)))) o ay az a0→∀a1:List Int,a1=ay→(0+l*1≤msg.length∧∃M:List Int,(kL=kL∧
 Abs M o a1 az a0∧Bytes (List.take (l*1) (List.drop 0 msg))∧List.length (List.take (l*1) (List.drop 0 msg))=l∧l≤c∧l≤65536∧M.length <
 1099511627776)∧∀(p:S8) (a2:List Int) (a3 a4:Int),Abs (M++List.take (l*1) (List.drop 0 msg)) p a2 a3 a4→∀a5:List Int,a5=a2→∀a6,a6=shrv .i64 n 8→∀D,D=IntKind.wrap IntKind.u8 a6→∀E,E=IntKind.wrap
 IntKind.u8 n→(3≤List.length [D,E,(0:Int)]∧∃N:List Int,(kL=kL∧Abs N p a5 a3 a4∧Bytes (List.take 3 (List.drop 0 [D,E,(0:Int)]))∧
 List.length (List.take 3 (List.drop 0 [D,E,(0:Int)]))=3∧(3:Nat)≤(3:Nat)∧(3:Nat)≤(65536:Nat)∧N.length<1099511627776)∧∀(q:S8) (a7:List Int) (a8 a9:Int),Abs (N++List.take 3 (List.drop 0 [D,E,(0:
 Int)])) q a7 a8 a9→∀ba:List Int,ba=a7→(0+l2*1≤dst.length∧∃O:List Int,(kL=kL∧Abs O q ba a8 a9∧Bytes (List.take (l2*1) (List.drop 0
 dst))∧List.length (List.take (l2*1) (List.drop 0 dst))=l2∧l2≤c2∧l2≤65536∧O.length<1099511627776)∧∀(r:S8) (bb:List Int) (bc bd:Int),Abs (O++List.take (l2*1) (List.drop 0 dst)) r bb bc bd→∀be:List Int,be
 =bb→(1≤List.length [f]∧∃Q:List Int,(kL=kL∧Abs Q r be bc bd∧Bytes (List.take 1 (List.drop 0 [f]))∧List.length (List.take 1 (List.drop 0 [f]))=
 1∧(1:Nat)≤(1:Nat)∧(1:Nat)≤(65536:Nat)∧Q.length<1099511627776)∧∀(s:S8) (bf:List Int) (bg bh:Int),Abs (Q++List.take 1 (List.drop 0 [f])) s bf bg bh→∀R:List Int,R=bf→∃S:List Int,(kL=kL∧Abs S
 s R bg bh∧S.length<549755813888)∧∀(T:List Int) (k:Nat),List.take 32 T=sha S∧T.length=k∧32≤k→∀g:List Int,g=T→∀bi:List Int,bi=
 R→(32≤g.length∧∃V:List Int,(kL=kL∧Abs V (S8.mk (1779033703:Int) (3144134277:Int) (1013904242:Int) (2773480762:Int) (1359893119:Int) (2600822924:Int) (528734635:Int) (1541459225:Int)) bi (0:Int) (0:Int)∧
 Bytes (List.take 32 (List.drop 0 g))∧List.length (List.take 32 (List.drop 0 g))=32∧32≤k∧(32:Nat)≤(65536:Nat)∧V.length<1099511627776)∧∀(t:S8) (bj:List Int) (bk bl:Int),Abs (V++List.take 32 (List.drop 0 g)) t
 bj bk bl→∀bm:List Int,bm=bj→((1:Nat)≤(1:Nat)∧∃X:List Int,(kL=kL∧Abs X t bm bk bl∧Bytes (List.take 1 (List.drop 0 [(1:Int)]))∧(1:
 Nat)=(1:Nat)∧(1:Nat)≤(1:Nat)∧(1:Nat)≤(65536:Nat)∧X.length<1099511627776)∧∀(u:S8) (bn:List Int) (bo bp:Int),Abs (X++List.take 1 (List.drop 0 [(1:Int)])) u bn bo bp→∀bq:List Int,bq=bn→(0+l2 *
 1≤dst.length∧∃Y:List Int,(kL=kL∧Abs Y u bq bo bp∧Bytes (List.take (l2*1) (List.drop 0 dst))∧List.length (List.take (l2*1) (List.drop 0 dst))
 =l2∧l2≤c2∧l2≤65536∧Y.length<1099511627776)∧∀(v:S8) (br:List Int) (bs bt:Int),Abs (Y++List.take (l2*1) (List.drop 0 dst)) v br bs bt→∀bu:List Int,bu=br→(1≤List.length [f]∧∃Z:List Int,(kL=kL∧
 Abs Z v bu bs bt∧Bytes (List.take 1 (List.drop 0 [f]))∧List.length (List.take 1 (List.drop 0 [f]))=1∧(1:Nat)≤(1:Nat)∧(1:Nat)≤(65536:Nat)∧
 Z.length<1099511627776)∧∀(h:S8) (bv:List Int) (aa ab:Int),Abs (Z++List.take 1 (List.drop 0 [f])) h bv aa ab→∀ac:List Int,ac=bv→∃ad:List Int,(kL=kL∧Abs ad (S8.mk (S8.a h) (S8.b h) (S8.c h) (S8.d h) (S8.e h)
 (S8.f h) (S8.g h) (S8.h h)) ac aa ab∧ad.length<549755813888)∧∀(ae:List Int) (af:Nat),List.take 32 ae=sha ad∧ae.length=af∧32≤af→∀H:List Int,H=ae→(0≤n∧n*1≤140737488355328∧n≤140737488355328)∧((0:
 Int)≤(32:Int)∧32≤((Int.toNat n:Nat):Int))∧(32≤H.length∧32≤List.length (List.replicate (Int.toNat n*1) (0:Int)))∧((∃e:ExI,(1≤ExI.j e∧32*((ExI.j e:Nat):Int)<n+32∧Rw (ExI.b e) (bI (firstL msg dst
 n) (domL dst) (ExI.j e)) (32:Nat) (ExI.bc e)∧((List.length (ExI.res e):Nat):Int)=n∧List.take (32*ExI.j e) (ExI.res e)=List.take (Int.toNat n) (outN (firstL msg dst n) (domL dst) (ExI.j e))∧List.length (ExI.x e)=64)∧
 ((l2=l2∧c2=c2)∧n=n∧j=j∧f=f∧k=k∧(Int.toNat n=Int.toNat n∧Int.toNat n=Int.toNat n)∧af=ExI.bc e∧2=((ExI.j e:Nat):Int)+1)∧kL=kL∧dst=dst∧g=g∧((S8.a h=S8.a (ExI.H e)∧S8.b h=S8.b
 (ExI.H e)∧S8.c h=S8.c (ExI.H e)∧S8.d h=S8.d (ExI.H e)∧S8.e h=S8.e (ExI.H e)∧S8.f h=S8.f (ExI.H e)∧S8.g h=S8.g (ExI.H e)∧S8.h h=S8.h (ExI.H e))∧ac=ExI.x e∧aa=ExI.nx e∧ab=ExI.len e)∧H=ExI.b e∧splice
 (List.replicate (Int.toNat n*1) (0:Int)) (0:Nat) (List.take 32 (List.drop 0 H))=ExI.res e)∧∀a:ExI,1≤ExI.j a∧32*((ExI.j a:Nat):Int)<n+32∧Rw (ExI.b a) (bI (firstL msg dst n) (domL dst) (ExI.j a)) (32:Nat)
 (ExI.bc a)∧((List.length (ExI.res a):Nat):Int)=n∧List.take (32*ExI.j a) (ExI.res a)=List.take (Int.toNat n) (outN (firstL msg dst n) (domL dst) (ExI.j a))∧List.length (ExI.x a)=64→(decide (((ExI.j a:Nat):Int)+1≤
 j)=true→∀C:List Int,C=ExI.x a→((0:Int)≤(32:Int)∧(32:Int)≤(140737488355328:Int)∧(32:Int)≤(140737488355328:Int))∧((∃A:Prod Nat (List Int),(List.length (Prod.snd A)=32∧List.take (Prod.fst A)
 (Prod.snd A)=List.take (Prod.fst A) (xorL g (ExI.b a))∧Prod.fst A≤32)∧((l2=l2∧c2=c2)∧n=n∧j=j∧f=f∧k=k∧ExI.bc a=ExI.bc a∧(Int.toNat n=Int.toNat n∧Int.toNat n=Int.toNat n)∧((ExI.j a:Nat):Int) +
 1=((ExI.j a:Nat):Int)+1∧0=((Prod.fst A:Nat):Int))∧kL=kL∧dst=dst∧(((1779033703:Int)=(1779033703:Int)∧(3144134277:Int)=(3144134277:Int)∧(1013904242:Int)=(1013904242:Int)∧(2773480762:Int)=
 (2773480762:Int)∧(1359893119:Int)=(1359893119:Int)∧(2600822924:Int)=(2600822924:Int)∧(528734635:Int)=(528734635:Int)∧(1541459225:Int)=(1541459225:Int))∧C=C∧(0:Int)=(0:Int)∧(0:Int)=(0:
 Int))∧g=g∧ExI.res a=ExI.res a∧ExI.b a=ExI.b a∧List.replicate 32 (0:Int)=Prod.snd A)∧∀b:Prod Nat (List Int),List.length (Prod.snd b)=32∧List.take (Prod.fst b) (Prod.snd b)=List.take (Prod.fst b) (xorL g (ExI.b
 a))∧Prod.fst b≤32→(decide (((Prod.fst b:Nat):Int)<32)=true→(0≤((Prod.fst b:Nat):Int)∧((Prod.fst b:Nat):Int)<32)∧(Int.toNat ((Prod.fst b:Nat):Int)*1+1≤g.length∧∀bw:Int,bw=List.getD g
 (Int.toNat ((Prod.fst b:Nat):Int)*1) (0:Int)→(0≤((Prod.fst b:Nat):Int)∧((Prod.fst b:Nat):Int)<32)∧(Int.toNat ((Prod.fst b:Nat):Int)*1+1≤List.length (ExI.b a)∧∀bx:Int,bx=List.getD (ExI.b a)
 (Int.toNat ((Prod.fst b:Nat):Int)*1) (0:Int)→∀bz,bz=bxor .u8 bw bx→(0≤((Prod.fst b:Nat):Int)∧((Prod.fst b:Nat):Int)<32)∧(Int.toNat ((Prod.fst b:Nat):Int)*1<List.length (Prod.snd b)∧∀b0,b0=
 IntKind.wrap IntKind.i64 (((Prod.fst b:Nat):Int)+1)→∃z:Prod Nat (List Int),(List.length (Prod.snd z)=32∧List.take (Prod.fst z) (Prod.snd z)=List.take (Prod.fst z) (xorL g (ExI.b a))∧Prod.fst z≤32)∧(((l2=l2∧c2=
 c2)∧n=n∧j=j∧f=f∧k=k∧ExI.bc a=ExI.bc a∧(Int.toNat n=Int.toNat n∧Int.toNat n=Int.toNat n)∧((ExI.j a:Nat):Int)+1=((ExI.j a:Nat):Int)+1∧b0=((Prod.fst z:Nat):Int))∧kL=kL∧dst=dst∧
 (((1779033703:Int)=(1779033703:Int)∧(3144134277:Int)=(3144134277:Int)∧(1013904242:Int)=(1013904242:Int)∧(2773480762:Int)=(2773480762:Int)∧(1359893119:Int)=(1359893119:Int)∧(2600822924:Int)=
 (2600822924:Int)∧(528734635:Int)=(528734635:Int)∧(1541459225:Int)=(1541459225:Int))∧C=C∧(0:Int)=(0:Int)∧(0:Int)=(0:Int))∧g=g∧ExI.res a=ExI.res a∧ExI.b a=ExI.b a∧List.set (Prod.snd b)
 (Int.toNat ((Prod.fst b:Nat):Int)*1) bz=Prod.snd z)∧32-Prod.fst z<32-Prod.fst b))))∧(decide (((Prod.fst b:Nat):Int)<32)=false→(32≤List.length (Prod.snd b)∧∃ag:List Int,(kL=kL∧Abs ag (S8.mk
 (1779033703:Int) (3144134277:Int) (1013904242:Int) (2773480762:Int) (1359893119:Int) (2600822924:Int) (528734635:Int) (1541459225:Int)) C (0:Int) (0:Int)∧Bytes (List.take 32 (List.drop 0 (Prod.snd b)))∧List.length
 (List.take 32 (List.drop 0 (Prod.snd b)))=32∧(32:Nat)≤(32:Nat)∧(32:Nat)≤(65536:Nat)∧ag.length<1099511627776)∧∀(w:S8) (b1:List Int) (b2 b3:Int),Abs (ag++List.take 32 (List.drop 0 (Prod.snd b))) w b1 b2 b3→
 ∀b4:List Int,b4=b1→∀F,F=IntKind.wrap IntKind.u8 (((ExI.j a:Nat):Int)+1)→(1≤List.length [F]∧∃ah:List Int,(kL=kL∧Abs ah w b4 b2 b3
 ∧Bytes (List.take 1 (List.drop 0 [F]))∧List.length (List.take 1 (List.drop 0 [F]))=1∧(1:Nat)≤(1:Nat)∧(1:Nat)≤(65536:Nat)∧ah.length<1099511627776)∧∀(x:S8) (b5:List Int) (b6 b7:Int),Abs (ah++List.take 1
 (List.drop 0 [F])) x b5 b6 b7→∀b8:List Int,b8=b5→(0+l2*1≤dst.length∧∃ai:List Int,(kL=kL∧Abs ai x b8 b6 b7∧Bytes (List.take (l2*1)
 (List.drop 0 dst))∧List.length (List.take (l2*1) (List.drop 0 dst))=l2∧l2≤c2∧l2≤65536∧ai.length<1099511627776)∧∀(y:S8) (b9:List Int) (ca cb:Int),Abs (ai++List.take (l2*1) (List.drop 0 dst)) y b9 ca cb→∀cc
 :List Int,cc=b9→(1≤List.length [f]∧∃aj:List Int,(kL=kL∧Abs aj y cc ca cb∧Bytes (List.take 1 (List.drop 0 [f]))∧List.length (List.take 1
 (List.drop 0 [f]))=1∧(1:Nat)≤(1:Nat)∧(1:Nat)≤(65536:Nat)∧aj.length<1099511627776)∧∀(i:S8) (cd:List Int) (ak al:Int),Abs (aj++List.take 1 (List.drop 0 [f])) i cd ak al→∀am:List Int,am=cd→∃an:
 List Int,(kL=kL∧Abs an i am ak al∧an.length<549755813888)∧∀(ao:List Int) (ap:Nat),List.take 32 ao=sha an∧ao.length=ap∧32≤ap→∀I:
 List Int,I=ao→∀ce,ce=IntKind.wrap IntKind.i64 (((ExI.j a:Nat):Int)+1-1)→∀m,m=IntKind.wrap IntKind.i64 (32*ce)→∀aq,aq=IntKind.wrap IntKind.i64 (32*(((ExI.j a:Nat):Int)+1))→∀ar:Int,ar=
 ((Int.toNat n:Nat):Int)→∀B:Int,B=(if ar<aq then ar else aq)→((0≤B∧B≤((Int.toNat n:Nat):Int))∧0≤m∧m≤((Int.toNat B:Nat):Int))∧((0+Min.min (32:Nat) (Int.toNat B-Int.toNat m)≤I.length∧(if
 Int.toNat n=Int.toNat m then (0:Nat)else Int.toNat m*1)+Min.min (32:Nat) (Int.toNat B-Int.toNat m)≤List.length (ExI.res a))∧∀cf,cf=IntKind.wrap IntKind.i64 (((ExI.j a:Nat):Int)+1+1)→∃d:ExI,(1≤ExI.j d∧
 32*((ExI.j d:Nat):Int)<n+32∧Rw (ExI.b d) (bI (firstL msg dst n) (domL dst) (ExI.j d)) (32:Nat) (ExI.bc d)∧((List.length (ExI.res d):Nat):Int)=n∧List.take (32*ExI.j d) (ExI.res d)=List.take (Int.toNat n) (outN
 (firstL msg dst n) (domL dst) (ExI.j d))∧List.length (ExI.x d)=64)∧(((l2=l2∧c2=c2)∧n=n∧j=j∧f=f∧k=k∧(Int.toNat n=Int.toNat n∧Int.toNat n=Int.toNat n)∧ap=ExI.bc d∧cf=((ExI.j d:Nat):Int)+1)∧
 kL=kL∧dst=dst∧g=g∧((S8.a i=S8.a (ExI.H d)∧S8.b i=S8.b (ExI.H d)∧S8.c i=S8.c (ExI.H d)∧S8.d i=S8.d (ExI.H d)∧S8.e i=S8.e (ExI.H d)∧S8.f i=S8.f (ExI.H d)∧S8.g i=S8.g (ExI.H d)∧S8.h i=S8.h (ExI.H d))
 ∧am=ExI.x d∧ak=ExI.nx d∧al=ExI.len d)∧I=ExI.b d∧splice (ExI.res a) (if Int.toNat n=Int.toNat m then (0:Nat)else Int.toNat m*1) (List.take (Min.min (32:Nat) (Int.toNat B-Int.toNat m)) (List.drop 0 I))=ExI.res
 d)∧Int.toNat n+32-32*ExI.j d<Int.toNat n+32-32*ExI.j a))))))))∧(decide (((ExI.j a:Nat):Int)+1≤j)=false→K (.tup [.slice 1569 (.lit 0) (.sym (Int.toNat n)) (.sym (Int.toNat n)),.val .nilIface]) (memL [(2,
 ⟨true,.ints .u32 kL⟩),(17,⟨true,.ints .u8 dst⟩),(529,⟨false,.segs [.cells [.int .u32 (.sym (S8.a (ExI.H a))),.int .u32 (.sym (S8.b (ExI.H a))),.int .u32 (.sym (S8.c (ExI.H a))),.int .u32 (.sym (S8.d (ExI.H a))),.int .u32 (.sym
 (S8.e (ExI.H a))),.int .u32 (.sym (S8.f (ExI.H a))),.int .u32 (.sym (S8.g (ExI.H a))),.int .u32 (.sym (S8.h (ExI.H a)))],.ints .u8 64 (ExI.x a),.cells [.int .i64 (.sym (ExI.nx a)),.int .u64 (.sym (ExI.len a)),.bool (.lit false)]]⟩),
 (1177,⟨false,.ints .u8 g⟩),(1569,⟨false,.ints .u8 (ExI.res a)⟩),(1641,⟨false,.ints .u8 (ExI.b a)⟩)]))))))))))))))):=by kernel_rfl
theorem vc_exn (dst:List Int) (l2 c2:Nat) (n:Int) (K:SV→Mem→Prop):(execF cxEX (uEX 9 [] dst n) Tryz.f100 64 [.val (.slice none 0 0),.slice 9 (.lit 0) (.sym l2) (.sym c2),.int .i64 (.sym n)] (memL [(2,⟨true,.ints .u32 kL⟩),
 (9,⟨true,.ints .u8 dst⟩)]) K)=(∀E:List Int,E=List.replicate 64 (0:Int)→∀x1,x1=IntKind.wrap IntKind.i64 (n+32)→∀x2,x2=IntKind.wrap IntKind.i64 (x1-1)→∀i,i=IntKind.wrap IntKind.i64 (Int.tdiv x2 (32:Int))→
 (decide (i>255)=true→K (.tup [.val (.slice none 0 0),.iface 155 (.ptr 633 (.lit 0))]) (memL [(2,⟨true,.ints .u32 kL⟩),(9,⟨true,.ints .u8 dst⟩),(529,⟨false,.segs [.cells [.int .u32 (.sym 1779033703),.int .u32 (.sym
 3144134277),.int .u32 (.sym 1013904242),.int .u32 (.sym 2773480762),.int .u32 (.sym 1359893119),.int .u32 (.sym 2600822924),.int .u32 (.sym 528734635),.int .u32 (.sym 1541459225)],.ints .u8 64 E,.cells [.int .i64 (.sym 0),.int
 .u64 (.sym 0),.bool (.lit false)]]⟩),(633,⟨false,.cells [.val (.string ⟨⟨[105,110,118,97,108,105,100,32,108,101,110,73,110,66,121,116,101,115]⟩⟩)]⟩)]))∧(decide (i>255)=false→∀I:Int,I=((l2:Nat):Int)→
 (decide (I>255)=true→K (.tup [.val (.slice none 0 0),.iface 155 (.ptr 657 (.lit 0))]) (memL [(2,⟨true,.ints .u32 kL⟩),(9,⟨true,.ints .u8 dst⟩),(529,⟨false,.segs [.cells [.int .u32 (.sym 1779033703),.int .u32 (.sym
 3144134277),.int .u32 (.sym 1013904242),.int .u32 (.sym 2773480762),.int .u32 (.sym 1359893119),.int .u32 (.sym 2600822924),.int .u32 (.sym 528734635),.int .u32 (.sym 1541459225)],.ints .u8 64 E,.cells [.int .i64 (.sym 0),.int
 .u64 (.sym 0),.bool (.lit false)]]⟩),(657,⟨false,.cells [.val (.string ⟨⟨[105,110,118,97,108,105,100,32,100,111,109,97,105,110,32,115,105,122,101,32,40,62,50,53,53,32,98,121,116,101,115,41]⟩⟩)]⟩)]))∧
 (decide (I>255)=false→∀x5:Int,x5=((l2:Nat):Int)→∀e,e=IntKind.wrap IntKind.u8 x5→∀av:List Int,av=E→((0:Int)≤(64:Int)∧(64:Int)≤(140737488355328:Int)∧(64:Int)≤(140737488355328:Int))∧((64
 :Nat)≤(64:Nat)∧∃J:List Int,(kL=kL∧Abs J (S8.mk (1779033703:Int) (3144134277:Int) (1013904242:Int) (2773480762:Int) (1359893119:Int) (2600822924:Int) (528734635:Int) (1541459225:Int)) av (0:Int) (0:Int)∧
 Bytes (List.take 64 (List.drop 0 (List.replicate 64 (0:Int))))∧(64:Nat)=(64:Nat)∧(64:Nat)≤(64:Nat)∧(64:Nat)≤(65536:Nat)∧J.length<1099511627776)∧∀(l:S8) (aw:List Int) (ax ay:Int),Abs (J++List.take
 64 (List.drop 0 (List.replicate 64 (0:Int)))) l aw ax ay→∀az:List Int,az=aw→∃F:List Int,(kL=kL∧Abs F l az ax ay∧F.length%64=0∧
 F.length<1099511627776)∧∀(m:S8) (a0:List Int) (a1 a2:Int),Abs F m a0 a1 a2→∀a3:List Int,a3=a0→∀a4,a4=shrv .i64 n 8→∀B,B=IntKind.wrap IntKind.u8 a4→∀C,C=IntKind.wrap IntKind.u8 n→(3≤List.length [B,
 C,(0:Int)]∧∃L:List Int,(kL=kL∧Abs L m a3 a1 a2∧Bytes (List.take 3 (List.drop 0 [B,C,(0:Int)]))∧List.length (List.take 3 (List.drop 0 [B,C,
 (0:Int)]))=3∧(3:Nat)≤(3:Nat)∧(3:Nat)≤(65536:Nat)∧L.length<1099511627776)∧∀(o:S8) (a5:List Int) (a6 a7:Int),Abs (L++List.take 3 (List.drop 0 [B,C,(0:Int)])) o a5 a6 a7→∀a8:List Int,a8=a5→(0
 + l2*1≤dst.length∧∃M:List Int,(kL=kL∧Abs M o a8 a6 a7∧Bytes (List.take (l2*1) (List.drop 0 dst))∧List.length (List.take (l2*1) (List.drop 0
 dst))=l2∧l2≤c2∧l2≤65536∧M.length<1099511627776)∧∀(p:S8) (a9:List Int) (ba bb:Int),Abs (M++List.take (l2*1) (List.drop 0 dst)) p a9 ba bb→∀bc:List Int,bc=a9→(1≤List.length [e]∧∃N:List Int,(kL=
 kL∧Abs N p bc ba bb∧Bytes (List.take 1 (List.drop 0 [e]))∧List.length (List.take 1 (List.drop 0 [e]))=1∧(1:Nat)≤(1:Nat)∧(1:Nat)≤(65536:
 Nat)∧N.length<1099511627776)∧∀(q:S8) (bd:List Int) (be bf:Int),Abs (N++List.take 1 (List.drop 0 [e])) q bd be bf→∀O:List Int,O=bd→∃Q:List Int,(kL=kL∧Abs Q (S8.mk (S8.a q) (S8.b q) (S8.c q) (S8.d q) (S8.e
 q) (S8.f q) (S8.g q) (S8.h q)) O be bf∧Q.length<549755813888)∧∀(R:List Int) (j:Nat),List.take 32 R=sha Q∧R.length=j∧32≤j→∀f:List Int,f=R→∀bg:List Int,bg=O→(32≤f.length∧∃S:List Int,(kL=kL∧
 Abs S (S8.mk (1779033703:Int) (3144134277:Int) (1013904242:Int) (2773480762:Int) (1359893119:Int) (2600822924:Int) (528734635:Int) (1541459225:Int)) bg (0:Int) (0:Int)∧Bytes (List.take 32 (List.drop 0 f))∧
 List.length (List.take 32 (List.drop 0 f))=32∧32≤j∧(32:Nat)≤(65536:Nat)∧S.length<1099511627776)∧∀(r:S8) (bh:List Int) (bi bj:Int),Abs (S++List.take 32 (List.drop 0 f)) r bh bi bj→∀bk:List Int,bk=bh→
 ((1:Nat)≤(1:Nat)∧∃T:List Int,(kL=kL∧Abs T r bk bi bj∧Bytes (List.take 1 (List.drop 0 [(1:Int)]))∧(1:Nat)=(1:Nat)∧(1:Nat)≤(1:
 Nat)∧(1:Nat)≤(65536:Nat)∧T.length<1099511627776)∧∀(s:S8) (bl:List Int) (bm bn:Int),Abs (T++List.take 1 (List.drop 0 [(1:Int)])) s bl bm bn→∀bo:List Int,bo=bl→(0+l2*1≤dst.length∧∃V:List Int,
 (kL=kL∧Abs V s bo bm bn∧Bytes (List.take (l2*1) (List.drop 0 dst))∧List.length (List.take (l2*1) (List.drop 0 dst))=l2∧l2≤c2∧l2≤65536∧
 V.length<1099511627776)∧∀(t:S8) (bp:List Int) (bq br:Int),Abs (V++List.take (l2*1) (List.drop 0 dst)) t bp bq br→∀bs:List Int,bs=bp→(1≤List.length [e]∧∃X:List Int,(kL=kL∧Abs X (S8.mk (S8.a t) (S8.b t)
 (S8.c t) (S8.d t) (S8.e t) (S8.f t) (S8.g t) (S8.h t)) bs bq br∧Bytes (List.take 1 (List.drop 0 [e]))∧List.length (List.take 1 (List.drop 0 [e]))=1∧(1:Nat)≤(1:Nat)∧(1:Nat)≤(65536:Nat)∧X.length<1099511627776)∧∀
 (g:S8) (bt:List Int) (Y Z:Int),Abs (X++List.take 1 (List.drop 0 [e])) g bt Y Z→∀aa:List Int,aa=bt→∃ab:List Int,(kL=kL∧Abs ab g aa Y Z
 ∧ab.length<549755813888)∧∀(ac:List Int) (ad:Nat),List.take 32 ac=sha ab∧ac.length=ad∧32≤ad→∀G:List Int,G=ac→(0≤n∧n*1≤140737488355328∧n≤140737488355328)∧((0:Int)≤(32:Int)∧32≤((Int.toNat
 n:Nat):Int))∧(32≤G.length∧32≤List.length (List.replicate (Int.toNat n*1) (0:Int)))∧((∃d:ExI,(1≤ExI.j d∧32*((ExI.j d:Nat):Int)<n+32∧Rw (ExI.b d) (bI (firstL [] dst n) (domL dst) (ExI.j d)) (32:Nat)
 (ExI.bc d)∧((List.length (ExI.res d):Nat):Int)=n∧List.take (32*ExI.j d) (ExI.res d)=List.take (Int.toNat n) (outN (firstL [] dst n) (domL dst) (ExI.j d))∧List.length (ExI.x d)=64)∧((l2=l2∧c2=c2)∧n=n∧i=i∧
 e=e∧j=j∧(Int.toNat n=Int.toNat n∧Int.toNat n=Int.toNat n)∧ad=ExI.bc d∧2=((ExI.j d:Nat):Int)+1)∧kL=kL∧dst=dst∧f=f∧((S8.a g=S8.a (ExI.H d)∧S8.b g=S8.b (ExI.H d)∧S8.c g=S8.c (ExI.H d)∧S8.d
 g=S8.d (ExI.H d)∧S8.e g=S8.e (ExI.H d)∧S8.f g=S8.f (ExI.H d)∧S8.g g=S8.g (ExI.H d)∧S8.h g=S8.h (ExI.H d))∧aa=ExI.x d∧Y=ExI.nx d∧Z=ExI.len d)∧G=ExI.b d∧splice (List.replicate (Int.toNat n*1) (0:Int))
 (0:Nat) (List.take 32 (List.drop 0 G))=ExI.res d)∧∀a:ExI,1≤ExI.j a∧32*((ExI.j a:Nat):Int)<n+32∧Rw (ExI.b a) (bI (firstL [] dst n) (domL dst) (ExI.j a)) (32:Nat) (ExI.bc a)∧((List.length (ExI.res a):Nat):
 Int)=n∧List.take (32*ExI.j a) (ExI.res a)=List.take (Int.toNat n) (outN (firstL [] dst n) (domL dst) (ExI.j a))∧List.length (ExI.x a)=64→(decide (((ExI.j a:Nat):Int)+1≤i)=true→∀A:List Int,A=ExI.x a→((0:
 Int)≤(32:Int)∧(32:Int)≤(140737488355328:Int)∧(32:Int)≤(140737488355328:Int))∧((∃y:Prod Nat (List Int),(List.length (Prod.snd y)=32∧List.take (Prod.fst y) (Prod.snd y)=List.take (Prod.fst y) (xorL f (ExI.b
 a))∧Prod.fst y≤32)∧((l2=l2∧c2=c2)∧n=n∧i=i∧e=e∧j=j∧ExI.bc a=ExI.bc a∧(Int.toNat n=Int.toNat n∧Int.toNat n=Int.toNat n)∧((ExI.j a:Nat):Int)+1=((ExI.j a:Nat):Int)+1∧0=((Prod.fst y:
 Nat):Int))∧kL=kL∧dst=dst∧(((1779033703:Int)=(1779033703:Int)∧(3144134277:Int)=(3144134277:Int)∧(1013904242:Int)=(1013904242:Int)∧(2773480762:Int)=(2773480762:Int)∧(1359893119:Int)=(1359893119
 :Int)∧(2600822924:Int)=(2600822924:Int)∧(528734635:Int)=(528734635:Int)∧(1541459225:Int)=(1541459225:Int))∧A=A∧(0:Int)=(0:Int)∧(0:Int)=(0:Int))∧f=f∧ExI.res a=ExI.res a∧ExI.b a=ExI.b
 a∧List.replicate 32 (0:Int)=Prod.snd y)∧∀b:Prod Nat (List Int),List.length (Prod.snd b)=32∧List.take (Prod.fst b) (Prod.snd b)=List.take (Prod.fst b) (xorL f (ExI.b a))∧Prod.fst b≤32→(decide (((Prod.fst b:Nat):
 Int)<32)=true→(0≤((Prod.fst b:Nat):Int)∧((Prod.fst b:Nat):Int)<32)∧(Int.toNat ((Prod.fst b:Nat):Int)*1+1≤f.length∧∀bu:Int,bu=List.getD f (Int.toNat ((Prod.fst b:Nat):Int)*1) (0:Int)→(0≤
 ((Prod.fst b:Nat):Int)∧((Prod.fst b:Nat):Int)<32)∧(Int.toNat ((Prod.fst b:Nat):Int)*1+1≤List.length (ExI.b a)∧∀bv:Int,bv=List.getD (ExI.b a) (Int.toNat ((Prod.fst b:Nat):Int)*1) (0:Int)→∀bw,bw=
 bxor .u8 bu bv→(0≤((Prod.fst b:Nat):Int)∧((Prod.fst b:Nat):Int)<32)∧(Int.toNat ((Prod.fst b:Nat):Int)*1<List.length (Prod.snd b)∧∀bx,bx=IntKind.wrap IntKind.i64 (((Prod.fst b:Nat):Int)+1)→∃x:Prod
 Nat (List Int),(List.length (Prod.snd x)=32∧List.take (Prod.fst x) (Prod.snd x)=List.take (Prod.fst x) (xorL f (ExI.b a))∧Prod.fst x≤32)∧(((l2=l2∧c2=c2)∧n=n∧i=i∧e=e∧j=j∧ExI.bc a=ExI.bc a∧(Int.toNat
 n=Int.toNat n∧Int.toNat n=Int.toNat n)∧((ExI.j a:Nat):Int)+1=((ExI.j a:Nat):Int)+1∧bx=((Prod.fst x:Nat):Int))∧kL=kL∧dst=dst∧(((1779033703:Int)=(1779033703:Int)∧(3144134277:Int)=
 (3144134277:Int)∧(1013904242:Int)=(1013904242:Int)∧(2773480762:Int)=(2773480762:Int)∧(1359893119:Int)=(1359893119:Int)∧(2600822924:Int)=(2600822924:Int)∧(528734635:Int)=(528734635:Int)∧
 (1541459225:Int)=(1541459225:Int))∧A=A∧(0:Int)=(0:Int)∧(0:Int)=(0:Int))∧f=f∧ExI.res a=ExI.res a∧ExI.b a=ExI.b a∧List.set (Prod.snd b) (Int.toNat ((Prod.fst b:Nat):Int)*1) bw=Prod.snd x)∧32
 - Prod.fst x<32-Prod.fst b))))∧(decide (((Prod.fst b:Nat):Int)<32)=false→(32≤List.length (Prod.snd b)∧∃ae:List Int,(kL=kL∧Abs ae (S8.mk (1779033703:Int) (3144134277:Int) (1013904242:Int) (2773480762:Int)
 (1359893119:Int) (2600822924:Int) (528734635:Int) (1541459225:Int)) A (0:Int) (0:Int)∧Bytes (List.take 32 (List.drop 0 (Prod.snd b)))∧List.length (List.take 32 (List.drop 0 (Prod.snd b)))=32∧(32:Nat)≤(32:Nat)∧
 (32:Nat)≤(65536:Nat)∧ae.length<1099511627776)∧∀(u:S8) (bz:List Int) (b0 b1:Int),Abs (ae++List.take 32 (List.drop 0 (Prod.snd b))) u bz b0 b1→∀b2:List Int,b2=bz→∀D,D=IntKind.wrap IntKind.u8 (((ExI.j a:
 Nat):Int)+1)→(1≤List.length [D]∧∃af:List Int,(kL=kL∧Abs af u b2 b0 b1∧Bytes (List.take 1 (List.drop 0 [D]))∧List.length (List.take 1
 (List.drop 0 [D]))=1∧(1:Nat)≤(1:Nat)∧(1:Nat)≤(65536:Nat)∧af.length<1099511627776)∧∀(v:S8) (b3:List Int) (b4 b5:Int),Abs (af++List.take 1 (List.drop 0 [D])) v b3 b4 b5→∀b6:List Int,b6=b3→(0+l2 *
 1≤dst.length∧∃ag:List Int,(kL=kL∧Abs ag v b6 b4 b5∧Bytes (List.take (l2*1) (List.drop 0 dst))∧List.length (List.take (l2*1) (List.drop 0
 dst))=l2∧l2≤c2∧l2≤65536∧ag.length<1099511627776)∧∀(w:S8) (b7:List Int) (b8 b9:Int),Abs (ag++List.take (l2*1) (List.drop 0 dst)) w b7 b8 b9→∀ca:List Int,ca=b7→(1≤List.length [e]∧∃ah:List Int,(kL
 =kL∧Abs ah w ca b8 b9∧Bytes (List.take 1 (List.drop 0 [e]))∧List.length (List.take 1 (List.drop 0 [e]))=1∧(1:Nat)≤(1:Nat)∧(1:Nat)≤(65536:
 Nat)∧ah.length<1099511627776)∧∀(h:S8) (cb:List Int) (ai aj:Int),Abs (ah++List.take 1 (List.drop 0 [e])) h cb ai aj→∀ak:List Int,ak=cb→∃al:List Int,(kL=kL∧Abs al (S8.mk (S8.a h) (S8.b h) (S8.c h) (S8.d h)
 (S8.e h) (S8.f h) (S8.g h) (S8.h h)) ak ai aj∧al.length<549755813888)∧∀(am:List Int) (an:Nat),List.take 32 am=sha al∧am.length=an∧32≤an→∀H:List Int,H=am→∀cc,cc=IntKind.wrap IntKind.i64 (((ExI.j a:Nat)
 :Int)+1-1)→∀k,k=IntKind.wrap IntKind.i64 (32*cc)→∀ao,ao=IntKind.wrap IntKind.i64 (32*(((ExI.j a:Nat):Int)+1))→∀ap:Int,ap=((Int.toNat n:Nat):Int)→∀z:Int,z=(if ap<ao then ap else ao)→((0≤z
 ∧z≤((Int.toNat n:Nat):Int))∧0≤k∧k≤((Int.toNat z:Nat):Int))∧((0+Min.min (32:Nat) (Int.toNat z-Int.toNat k)≤H.length∧(if Int.toNat n=Int.toNat k then (0:Nat)else Int.toNat k*1)+Min.min (32:Nat)
 (Int.toNat z-Int.toNat k)≤List.length (ExI.res a))∧∀cd,cd=IntKind.wrap IntKind.i64 (((ExI.j a:Nat):Int)+1+1)→∃c:ExI,(1≤ExI.j c∧32*((ExI.j c:Nat):Int)<n+32∧Rw (ExI.b c) (bI (firstL [] dst n) (domL
 dst) (ExI.j c)) (32:Nat) (ExI.bc c)∧((List.length (ExI.res c):Nat):Int)=n∧List.take (32*ExI.j c) (ExI.res c)=List.take (Int.toNat n) (outN (firstL [] dst n) (domL dst) (ExI.j c))∧List.length (ExI.x c)=64)∧(((l2=l2∧
 c2=c2)∧n=n∧i=i∧e=e∧j=j∧(Int.toNat n=Int.toNat n∧Int.toNat n=Int.toNat n)∧an=ExI.bc c∧cd=((ExI.j c:Nat):Int)+1)∧kL=kL∧dst=dst∧f=f∧((S8.a h=S8.a (ExI.H c)∧S8.b h=S8.b (ExI.H c)∧
 S8.c h=S8.c (ExI.H c)∧S8.d h=S8.d (ExI.H c)∧S8.e h=S8.e (ExI.H c)∧S8.f h=S8.f (ExI.H c)∧S8.g h=S8.g (ExI.H c)∧S8.h h=S8.h (ExI.H c))∧ak=ExI.x c∧ai=ExI.nx c∧aj=ExI.len c)∧H=ExI.b c∧splice (ExI.res a)
 (if Int.toNat n=Int.toNat k then (0:Nat)else Int.toNat k*1) (List.take (Min.min (32:Nat) (Int.toNat z-Int.toNat k)) (List.drop 0 H))=ExI.res c)∧Int.toNat n+32-32*ExI.j c<Int.toNat n+32-32*ExI.j a))))))))∧
 (decide (((ExI.j a:Nat):Int)+1≤i)=false→K (.tup [.slice 1569 (.lit 0) (.sym (Int.toNat n)) (.sym (Int.toNat n)),.val .nilIface]) (memL [(2,⟨true,.ints .u32 kL⟩),(9,⟨true,.ints .u8 dst⟩),(529,⟨false,.segs [.cells [.int
 .u32 (.sym (S8.a (ExI.H a))),.int .u32 (.sym (S8.b (ExI.H a))),.int .u32 (.sym (S8.c (ExI.H a))),.int .u32 (.sym (S8.d (ExI.H a))),.int .u32 (.sym (S8.e (ExI.H a))),.int .u32 (.sym (S8.f (ExI.H a))),.int .u32 (.sym (S8.g (ExI.H a))),
 .int .u32 (.sym (S8.h (ExI.H a)))],.ints .u8 64 (ExI.x a),.cells [.int .i64 (.sym (ExI.nx a)),.int .u64 (.sym (ExI.len a)),.bool (.lit false)]]⟩),(1177,⟨false,.ints .u8 f⟩),(1569,⟨false,.ints .u8 (ExI.res a)⟩),(1641,⟨false,
 .ints .u8 (ExI.b a)⟩)])))))))))))))):=by kernel_rfl
end Go.Sx
namespace Go.Sx
open Go
theorem bxor_zero {x:Int} (h1:0≤x) (h2:x<256):bxor .u8 x 0=x:=by
 obtain ⟨n,rfl⟩:=Int.eq_ofNat_of_zero_le h1
 have:∀k:Fin 256,bxor .u8 ((k.val:Nat):Int) 0=((k.val:Nat):Int):=by decide +kernel
 exact this ⟨n,by omega⟩
theorem xorL_zero {f:List Int} (hl:f.length=32) (hb:Bytes f):xorL f (List.replicate 32 0)=f:=by
 apply List.ext_getElem
 ·rw[xorL_length,hl]
 ·intro i h1 h2
  have e0:(xorL f (List.replicate 32 0))[i]=bxor .u8 (f.getD i 0) ((List.replicate 32 0).getD i 0):=by
   simp[xorL]
  rw[e0]
  have e1:f.getD i 0=f[i]:=by simp[List.getD_eq_getElem?_getD,h2]
  have e2:(List.replicate 32 (0:Int)).getD i 0=0:=by
   rw[List.getD_eq_getElem?_getD,List.getElem?_replicate]
   split<;>rfl
  rw[e1,e2]
  exact bxor_zero (hb _ (List.getElem_mem h2)).1 (hb _ (List.getElem_mem h2)).2
theorem shr8 {n:Int} (h1:0≤n) (h2:n≤65536):shrv .i64 n 8=IntKind.i64.wrap (Int.tdiv n 256):=by
 have e:shrv .i64 n 8=n.fdiv 256:=rfl
 rw[e,Int.fdiv_eq_ediv_of_nonneg _ (by omega),Int.tdiv_eq_ediv_of_nonneg h1,wrap64 (by omega) (by omega)]
theorem res_step {res o b:List Int} {n j:Nat} (hl:res.length=n) (h:res.take (32*j)=o.take n) (ho:o.length=32*j) (hb:b.length=32) (hj:32*j<n):
  (splice res (32*j) (b.take (min 32 (min n (32*(j+1))-32*j)))).length=n∧
  (splice res (32*j) (b.take (min 32 (min n (32*(j+1))-32*j)))).take (32*(j+1))=(o++b).take n:=by
 generalize hq:b.take (min 32 (min n (32*(j+1))-32*j))=q
 have hql:q.length=min 32 (min n (32*(j+1))-32*j):=by rw[←hq,List.length_take];omega
 have hsl:(splice res (32*j) q).length=n:=by rw[splice_length (by omega),hl]
 refine ⟨hsl,?_⟩
 have hmid:=take_splice_mid (x:=res) (q:=q) (n:=32*j) (by omega)
 rw[h,List.take_of_length_le (l:=o) (by omega)]at hmid
 by_cases hc:32*(j+1)≤n
 ·have e1:q.length=32:=by omega
  have e2:q=b:=by rw[←hq,List.take_of_length_le (by omega)]
  rw[e1]at hmid
  rw[show 32*(j+1)=32*j+32 by omega,hmid,e2,List.take_of_length_le (by simp;omega)]
 ·have e1:32*j+q.length=n:=by omega
  rw[List.take_of_length_le (by omega)]
  rw[e1,List.take_of_length_le (by omega)]at hmid
  rw[hmid,List.take_append,List.take_of_length_le (l:=o) (by omega),ho,←hq]
  congr 2
  omega
end Go.Sx
namespace Go.Sx
open Go Go.Proofs
set_option maxRecDepth 100000
set_option maxHeartbeats 4000000
theorem ex_walk (msg dst:List Int) (l c l2 c2:Nat) (n:Int) (K:SV→Mem→Prop) (hl:msg.length=l) (hl2:dst.length=l2) (hc:l≤c) (hc2:l2≤c2) (hb:Bytes msg) (hb2:Bytes dst) (h1:l≤65536) (h2:l2≤65536) (hn:32≤n) (hn2:n≤65536) (hup:KUp K)
  (hK1:n>8160→∀s,K (.tup [.val (.slice none 0 0),.iface 155 (.ptr 633 (.lit 0))]) (memL [(633,⟨false,.cells [.val (.string s)]⟩)]))
  (hK2:n≤8160→l2>255→∀s,K (.tup [.val (.slice none 0 0),.iface 155 (.ptr 657 (.lit 0))]) (memL [(657,⟨false,.cells [.val (.string s)]⟩)]))
  (hK:n≤8160→l2≤255→∀ys,ys=expand msg dst n.toNat→K (.tup [.slice 1569 (.lit 0) (.sym n.toNat) (.sym n.toNat),.val .nilIface]) (memL [(1569,⟨false,.ints .u8 ys⟩)])):
  execF cxEX (uEX 17 msg dst n) Tryz.f100 64 [.slice 9 (.lit 0) (.sym l) (.sym c),.slice 17 (.lit 0) (.sym l2) (.sym c2),.int .i64 (.sym n)] (memL [(2,⟨true,.ints .u32 kL⟩),(9,⟨true,.ints .u8 msg⟩),(17,⟨true,.ints .u8 dst⟩)]) K:=by
 rw[vc_ex,take1 _ hl,take1 _ hl2]
 have hf:firstL msg dst n=sha (List.replicate 64 0++msg++ [IntKind.u8.wrap (shrv .i64 n 8),IntKind.u8.wrap n,0]++dst++ [IntKind.u8.wrap ((l2:Nat):Int)]):=by
  unfold firstL domL
  rw[shr8 (by omega) (by omega),hl2]
  simp only[List.append_assoc]
 have hfl:(firstL msg dst n).length=32:=rfl
 have hfb:Bytes (firstL msg dst n):=sha_bytes _
 have hdom:domL dst=dst++ [IntKind.u8.wrap ((l2:Nat):Int)]:=by unfold domL;rw[hl2]
 have hexp:∀j:Nat,n≤32*(j:Int)→32*(j:Int)<n+32→expand msg dst n.toNat=(outN (firstL msg dst n) (domL dst) j).take n.toNat:=fun j q1 q2=>by
  rw[expand_eq (i:=j) (by omega) (by omega),show ((n.toNat:Nat):Int)=n by omega]
 rintro ys0 rfl x1 rfl x2 hx2 x3 hx3
 rw[wrap64 (x:=n+32) (by omega) (by omega),wrap64 (by omega) (by omega)]at hx2
 rw[Int.tdiv_eq_ediv_of_nonneg (by omega),wrap64 (by omega) (by omega)]at hx3
 refine ⟨fun hbig=> ?_,fun hbig=> ?_⟩
 ·simp only[decide_eq_true_eq]at hbig
  exact hup.le (memL_sub [2,9,17,529,633] rfl (by decide) (by
   intro x hx
   simp only[List.mem_cons,List.not_mem_nil,or_false]at hx ⊢
   iterate 4 (apply Or.inr)
   exact hx)) (hK1 (by omega) _)
 simp only[decide_eq_false_iff_not]at hbig
 rintro x4 rfl
 refine ⟨fun hbig2=> ?_,fun hbig2=> ?_⟩
 ·simp only[decide_eq_true_eq]at hbig2
  exact hup.le (memL_sub [2,9,17,529,657] rfl (by decide) (by
   intro x hx
   simp only[List.mem_cons,List.not_mem_nil,or_false]at hx ⊢
   iterate 4 (apply Or.inr)
   exact hx)) (hK2 (by omega) (by omega) _)
 simp only[decide_eq_false_iff_not]at hbig2
 rintro x5 rfl x6 hx6
 rintro ys7 rfl
 refine ⟨by omega,?_⟩
 refine ⟨Nat.le_refl _,[],⟨rfl,Abs.empty rfl,((bytes0 64).drop 0).take 64,rfl,Nat.le_refl _,by omega,by simp⟩,?_⟩
 rintro x9 x10 x11 x12 a1 ys13 rfl
 have a1:Abs (List.replicate 64 0) x9 ys13 x11 x12:=a1
 refine ⟨by omega,_,⟨rfl,a1,hb,hl,hc,h1,by simp⟩,?_⟩
 rintro x15 x16 x17 x18 a2 ys19 rfl x20 rfl x21 rfl x22 rfl
 refine ⟨Nat.le_refl _,_,⟨rfl,a2,(bytes3.drop 0).take 3,rfl,Nat.le_refl _,by omega,by simp<;>omega⟩,?_⟩
 rintro x24 x25 x26 x27 a3 ys28 rfl
 have a3:Abs (List.replicate 64 0++msg++ [IntKind.u8.wrap (shrv .i64 n 8),IntKind.u8.wrap n,0]) x24 ys28 x26 x27:=a3
 refine ⟨by omega,_,⟨rfl,a3,hb2,hl2,hc2,h2,by simp<;>omega⟩,?_⟩
 rintro x30 x31 x32 x33 a4 ys34 rfl
 subst hx6
 refine ⟨Nat.le_refl _,_,⟨rfl,a4,(bytes1.drop 0).take 1,rfl,Nat.le_refl _,by omega,by simp<;>omega⟩,?_⟩
 rintro x36 x37 x38 x39 a5 ys40 rfl
 refine ⟨_,⟨rfl,a5,by simp<;>omega⟩,?_⟩
 rintro ys42 cap43 ⟨f1,f2,f3⟩ ys44 rfl
 have f1:ys44.take 32=firstL msg dst n:=f1.trans hf.symm
 rintro ys45 rfl
 have hx64:=a5.xl
 refine ⟨by omega,_,⟨rfl,Abs.empty hx64,(by rw[List.drop_zero,f1];exact hfb),(by rw[List.drop_zero,f1];rfl),f3,by omega,by simp⟩,?_⟩
 rintro x47 x48 x49 x50 b1 ys51 rfl
 rw[List.drop_zero,f1,List.nil_append]at b1
 refine ⟨Nat.le_refl _,_,⟨rfl,b1,by simp[Bytes],rfl,Nat.le_refl _,by omega,by rw[hfl];omega⟩,?_⟩
 rintro x53 x54 x55 x56 b2 ys57 rfl
 have b2:Abs (firstL msg dst n++ [1]) x53 ys57 x55 x56:=b2
 refine ⟨by omega,_,⟨rfl,b2,hb2,hl2,hc2,h2,by rw[List.length_append,hfl];simp⟩,?_⟩
 rintro x59 x60 x61 x62 b3 ys63 rfl
 refine ⟨Nat.le_refl _,_,⟨rfl,b3,(bytes1.drop 0).take 1,rfl,Nat.le_refl _,by omega,by rw[List.length_append,List.length_append,hfl];simp;omega⟩,?_⟩
 rintro x65 x66 x67 x68 b4 ys69 rfl
 refine ⟨_,⟨rfl,b4,by rw[List.length_append,List.length_append,List.length_append,hfl];simp;omega⟩,?_⟩
 rintro ys71 cap72 ⟨g1,g2,g3⟩ ys73 rfl
 have g1:ys73.take 32=bI (firstL msg dst n) (domL dst) 1:=by
  rw[g1]
  show sha _=sha _
  rw[show bI (firstL msg dst n) (domL dst) 0=List.replicate 32 0 from rfl,xorL_zero hfl hfb,hdom]
  simp only[List.append_assoc]
  rfl
 have rF:Rw ys44 (firstL msg dst n) 32 cap43:=⟨hfl,f3,f2,f1⟩
 have rB:Rw ys73 (bI (firstL msg dst n) (domL dst) 1) 32 cap72:=⟨bI_length _ _ _,g3,g2,g1⟩
 have hr0:=res_step (res:=List.replicate n.toNat 0) (o:=outN (firstL msg dst n) (domL dst) 0) (b:=bI (firstL msg dst n) (domL dst) 1) (n:=n.toNat) (j:=0) (by simp) (by simp[outN]) rfl (bI_length _ _ _) (by omega)
 rw[show min 32 (min n.toNat (32*(0+1))-32*0)=32 by omega,List.take_of_length_le (l:=bI (firstL msg dst n) (domL dst) 1) (by rw[bI_length];exact Nat.le_refl _)]at hr0
 rw[List.drop_zero,g1,Nat.mul_one]
 refine ⟨by omega,by omega,⟨by omega,by simp<;>omega⟩,?_⟩
 refine ⟨⟨⟨1,ys73,cap72,splice (List.replicate n.toNat 0) 0 (bI (firstL msg dst n) (domL dst) 1),x65,ys69,x67,x68⟩,⟨Nat.le_refl _,by simp only;omega,rB,by simp only;rw[hr0.1];omega,hr0.2,b4.xl⟩,?_⟩,?_⟩
 ·repeat' apply And.intro
  all_goals first | trivial | rfl
 clear hr0 g1 g2 g3 rB b4 b3 b2 b1 a5 a4 a3 a2 a1
 rintro ⟨j,b,bc,res,H,x,nx,len⟩ ⟨q1,q2,rB,q4,q5,q6⟩
 simp only at q1 q2 rB q4 q5 q6
 simp only
 have hFl:=rF.le
 have hFn:=rF.len
 have hBl:=rB.le
 have hBn:=rB.len
 refine ⟨fun hj=> ?_,fun hj=> ?_⟩
 ·simp only[decide_eq_true_eq]at hj
  rintro ys76 rfl
  refine ⟨by omega,?_⟩
  refine ⟨⟨(0,List.replicate 32 0),⟨by simp,by simp,by simp⟩,?_⟩,?_⟩
  ·repeat' apply And.intro
   all_goals first | trivial | rfl
  rintro ⟨k,w⟩ ⟨w1,w2,w3⟩
  simp only at w1 w2 w3
  simp only[Int.toNat_natCast,Nat.mul_one]
  refine ⟨fun hk=> ?_,fun hk=> ?_⟩
  ·simp only[decide_eq_true_eq]at hk
   refine ⟨by omega,by omega,?_⟩
   rintro x79 rfl
   refine ⟨by omega,by omega,?_⟩
   rintro x80 rfl x81 hx81
   refine ⟨by omega,by omega,?_⟩
   rintro x82 hx82
   rw[wrap64 (by omega) (by omega)]at hx82
   refine ⟨(k+1,w.set k x81),⟨by simp only[List.length_set];exact w1,?_,by simp only;omega⟩,?_,by simp only;omega⟩
   ·simp only
    rw[xorL_take (by omega),←w2,←hx81,List.take_add_one,List.take_set_of_le (Nat.le_refl _)]
    simp[show k<w.length by omega]
   ·repeat' apply And.intro
    all_goals first | trivial | rfl | (simp only;omega)
  simp only[decide_eq_false_iff_not]at hk
  obtain rfl:k=32:=by omega
  rw[List.take_of_length_le (by omega),List.take_of_length_le (by rw[xorL_length];exact Nat.le_refl _)]at w2
  have hxor:w=xorL (firstL msg dst n) (bI (firstL msg dst n) (domL dst) j):=by
   rw[w2]
   exact xorL_congr (by rw[rF.row,List.take_of_length_le (by rw[rF.xl];exact Nat.le_refl _)]) (by rw[rB.row,List.take_of_length_le (by rw[rB.xl];exact Nat.le_refl _)])
  have hwb:Bytes w:=by rw[hxor];exact xorL_bytes _ _
  have hw32:List.take 32 (List.drop 0 w)=w:=by rw[List.drop_zero,List.take_of_length_le (by omega)]
  rw[hw32]
  refine ⟨by omega,_,⟨by trivial,Abs.empty q6,hwb,w1,Nat.le_refl _,by omega,by simp⟩,?_⟩
  rintro x85 x86 x87 x88 c1 ys89 rfl x90 rfl
  rw[List.nil_append]at c1
  refine ⟨Nat.le_refl _,_,⟨by trivial,c1,(bytes1.drop 0).take 1,rfl,Nat.le_refl _,by omega,by rw[w1];omega⟩,?_⟩
  rintro x92 x93 x94 x95 c2' ys96 rfl
  refine ⟨by omega,_,⟨by trivial,c2',hb2,hl2,hc2,h2,by rw[List.length_append,w1];simp⟩,?_⟩
  rintro x98 x99 x100 x101 c3 ys102 rfl
  refine ⟨Nat.le_refl _,_,⟨by trivial,c3,(bytes1.drop 0).take 1,rfl,Nat.le_refl _,by omega,by rw[List.length_append,List.length_append,w1];simp;omega⟩,?_⟩
  rintro x104 x105 x106 x107 c4 ys108 rfl
  refine ⟨_,⟨by trivial,c4,by rw[List.length_append,List.length_append,List.length_append,w1];simp;omega⟩,?_⟩
  rintro ys110 cap111 ⟨g1,g2,g3⟩ ys112 rfl
  have g1:ys112.take 32=bI (firstL msg dst n) (domL dst) (j+1):=by
   rw[g1]
   show sha _=sha _
   rw[←hxor,hdom]
   simp only[List.append_assoc]
   rfl
  have rB2:Rw ys112 (bI (firstL msg dst n) (domL dst) (j+1)) 32 cap111:=⟨bI_length _ _ _,g3,g2,g1⟩
  rintro x113 hx113 x114 hx114 x115 hx115 x116 hx116 x117 hx117
  rw[wrap64 (by omega) (by omega)]at hx113
  rw[hx113,wrap64 (by omega) (by omega)]at hx114
  rw[wrap64 (by omega) (by omega)]at hx115
  have e114:x114.toNat=32*j:=by omega
  have e117:x117=((min n.toNat (32*(j+1)):Nat):Int):=by
   rw[hx117]
   split<;>omega
  have e117':x117.toNat=min n.toNat (32*(j+1)):=by omega
  have hres:=res_step (res:=res) (o:=outN (firstL msg dst n) (domL dst) j) (b:=bI (firstL msg dst n) (domL dst) (j+1)) (n:=n.toNat) (j:=j) (by omega) q5 (outN_length _ _ _) (bI_length _ _ _) (by omega)
  have htk:List.take (min 32 (x117.toNat-x114.toNat)) (List.drop 0 ys112)=(bI (firstL msg dst n) (domL dst) (j+1)).take (min 32 (min n.toNat (32*(j+1))-32*j)):=by
   rw[List.drop_zero,←g1,List.take_take,e117',e114]
   congr 1
   omega
  rw[htk,if_neg (by omega),e114]
  refine ⟨⟨⟨by omega,by omega⟩,by omega,by omega⟩,⟨by omega,by omega⟩,?_⟩
  rintro x118 hx118
  rw[wrap64 (by omega) (by omega)]at hx118
  refine ⟨⟨j+1,ys112,cap111,splice res (32*j) ((bI (firstL msg dst n) (domL dst) (j+1)).take (min 32 (min n.toNat (32*(j+1))-32*j))),x104,ys108,x106,x107⟩,⟨by simp only;omega,by simp only;omega,rB2,by simp only;rw[hres.1];omega,hres.2,c4.xl⟩,?_,by simp only;omega⟩
  repeat' apply And.intro
  all_goals first | trivial | rfl | (simp only;omega)
 simp only[decide_eq_false_iff_not]at hj
 rw[List.take_of_length_le (by omega)]at q5
 have hres:res=expand msg dst n.toNat:=by rw[q5,hexp j (by omega) (by omega)]
 exact hup.le (memL_sub [2,17,529,1177,1569,1641] rfl (by decide) (by
  intro x hx
  simp only[List.mem_cons,List.not_mem_nil,or_false]at hx ⊢
  exact .inr (.inr (.inr (.inr (.inl hx)))))) (hK (by omega) (by omega) _ hres)
theorem exn_walk (dst:List Int) (l2 c2:Nat) (n:Int) (K:SV→Mem→Prop) (hl2:dst.length=l2) (hc2:l2≤c2) (hb2:Bytes dst) (h2:l2≤65536) (hn:32≤n) (hn2:n≤65536) (hup:KUp K)
  (hK1:n>8160→∀s,K (.tup [.val (.slice none 0 0),.iface 155 (.ptr 633 (.lit 0))]) (memL [(633,⟨false,.cells [.val (.string s)]⟩)]))
  (hK2:n≤8160→l2>255→∀s,K (.tup [.val (.slice none 0 0),.iface 155 (.ptr 657 (.lit 0))]) (memL [(657,⟨false,.cells [.val (.string s)]⟩)]))
  (hK:n≤8160→l2≤255→∀ys,ys=expand [] dst n.toNat→K (.tup [.slice 1569 (.lit 0) (.sym n.toNat) (.sym n.toNat),.val .nilIface]) (memL [(1569,⟨false,.ints .u8 ys⟩)])):
  execF cxEX (uEX 9 [] dst n) Tryz.f100 64 [.val (.slice none 0 0),.slice 9 (.lit 0) (.sym l2) (.sym c2),.int .i64 (.sym n)] (memL [(2,⟨true,.ints .u32 kL⟩),(9,⟨true,.ints .u8 dst⟩)]) K:=by
 rw[vc_exn,take1 _ hl2]
 have hf:firstL [] dst n=sha (List.replicate 64 0++ [IntKind.u8.wrap (shrv .i64 n 8),IntKind.u8.wrap n,0]++dst++ [IntKind.u8.wrap ((l2:Nat):Int)]):=by
  unfold firstL domL
  rw[shr8 (by omega) (by omega),hl2]
  simp only[List.append_assoc,List.nil_append]
 have hfl:(firstL [] dst n).length=32:=rfl
 have hfb:Bytes (firstL [] dst n):=sha_bytes _
 have hdom:domL dst=dst++ [IntKind.u8.wrap ((l2:Nat):Int)]:=by unfold domL;rw[hl2]
 have hexp:∀j:Nat,n≤32*(j:Int)→32*(j:Int)<n+32→expand [] dst n.toNat=(outN (firstL [] dst n) (domL dst) j).take n.toNat:=fun j q1 q2=>by
  rw[expand_eq (i:=j) (by omega) (by omega),show ((n.toNat:Nat):Int)=n by omega]
 rintro ys0 rfl x1 rfl x2 hx2 x3 hx3
 rw[wrap64 (x:=n+32) (by omega) (by omega),wrap64 (by omega) (by omega)]at hx2
 rw[Int.tdiv_eq_ediv_of_nonneg (by omega),wrap64 (by omega) (by omega)]at hx3
 refine ⟨fun hbig=> ?_,fun hbig=> ?_⟩
 ·simp only[decide_eq_true_eq]at hbig
  exact hup.le (memL_sub [2,9,529,633] rfl (by decide) (by
   intro x hx
   simp only[List.mem_cons,List.not_mem_nil,or_false]at hx ⊢
   iterate 3 (apply Or.inr)
   exact hx)) (hK1 (by omega) _)
 simp only[decide_eq_false_iff_not]at hbig
 rintro x4 rfl
 refine ⟨fun hbig2=> ?_,fun hbig2=> ?_⟩
 ·simp only[decide_eq_true_eq]at hbig2
  exact hup.le (memL_sub [2,9,529,657] rfl (by decide) (by
   intro x hx
   simp only[List.mem_cons,List.not_mem_nil,or_false]at hx ⊢
   iterate 3 (apply Or.inr)
   exact hx)) (hK2 (by omega) (by omega) _)
 simp only[decide_eq_false_iff_not]at hbig2
 rintro x5 rfl x6 hx6
 rintro ys7 rfl
 refine ⟨by omega,?_⟩
 refine ⟨Nat.le_refl _,[],⟨rfl,Abs.empty rfl,((bytes0 64).drop 0).take 64,rfl,Nat.le_refl _,by omega,by simp⟩,?_⟩
 rintro x9 x10 x11 x12 a1 ys13 rfl
 have a1:Abs (List.replicate 64 0) x9 ys13 x11 x12:=a1
 refine ⟨_,⟨rfl,a1,by simp,by simp⟩,?_⟩
 rintro x15 x16 x17 x18 a2 ys19 rfl x20 rfl x21 rfl x22 rfl
 refine ⟨Nat.le_refl _,_,⟨rfl,a2,(bytes3.drop 0).take 3,rfl,Nat.le_refl _,by omega,by simp<;>omega⟩,?_⟩
 rintro x24 x25 x26 x27 a3 ys28 rfl
 have a3:Abs (List.replicate 64 0++ [IntKind.u8.wrap (shrv .i64 n 8),IntKind.u8.wrap n,0]) x24 ys28 x26 x27:=a3
 refine ⟨by omega,_,⟨rfl,a3,hb2,hl2,hc2,h2,by simp<;>omega⟩,?_⟩
 rintro x30 x31 x32 x33 a4 ys34 rfl
 subst hx6
 refine ⟨Nat.le_refl _,_,⟨rfl,a4,(bytes1.drop 0).take 1,rfl,Nat.le_refl _,by omega,by simp<;>omega⟩,?_⟩
 rintro x36 x37 x38 x39 a5 ys40 rfl
 refine ⟨_,⟨rfl,a5,by simp<;>omega⟩,?_⟩
 rintro ys42 cap43 ⟨f1,f2,f3⟩ ys44 rfl
 have f1:ys44.take 32=firstL [] dst n:=f1.trans hf.symm
 rintro ys45 rfl
 have hx64:=a5.xl
 refine ⟨by omega,_,⟨rfl,Abs.empty hx64,(by rw[List.drop_zero,f1];exact hfb),(by rw[List.drop_zero,f1];rfl),f3,by omega,by simp⟩,?_⟩
 rintro x47 x48 x49 x50 b1 ys51 rfl
 rw[List.drop_zero,f1,List.nil_append]at b1
 refine ⟨Nat.le_refl _,_,⟨rfl,b1,by simp[Bytes],rfl,Nat.le_refl _,by omega,by rw[hfl];omega⟩,?_⟩
 rintro x53 x54 x55 x56 b2 ys57 rfl
 have b2:Abs (firstL [] dst n++ [1]) x53 ys57 x55 x56:=b2
 refine ⟨by omega,_,⟨rfl,b2,hb2,hl2,hc2,h2,by rw[List.length_append,hfl];simp⟩,?_⟩
 rintro x59 x60 x61 x62 b3 ys63 rfl
 refine ⟨Nat.le_refl _,_,⟨rfl,b3,(bytes1.drop 0).take 1,rfl,Nat.le_refl _,by omega,by rw[List.length_append,List.length_append,hfl];simp;omega⟩,?_⟩
 rintro x65 x66 x67 x68 b4 ys69 rfl
 refine ⟨_,⟨rfl,b4,by rw[List.length_append,List.length_append,List.length_append,hfl];simp;omega⟩,?_⟩
 rintro ys71 cap72 ⟨g1,g2,g3⟩ ys73 rfl
 have g1:ys73.take 32=bI (firstL [] dst n) (domL dst) 1:=by
  rw[g1]
  show sha _=sha _
  rw[show bI (firstL [] dst n) (domL dst) 0=List.replicate 32 0 from rfl,xorL_zero hfl hfb,hdom]
  simp only[List.append_assoc]
  rfl
 have rF:Rw ys44 (firstL [] dst n) 32 cap43:=⟨hfl,f3,f2,f1⟩
 have rB:Rw ys73 (bI (firstL [] dst n) (domL dst) 1) 32 cap72:=⟨bI_length _ _ _,g3,g2,g1⟩
 have hr0:=res_step (res:=List.replicate n.toNat 0) (o:=outN (firstL [] dst n) (domL dst) 0) (b:=bI (firstL [] dst n) (domL dst) 1) (n:=n.toNat) (j:=0) (by simp) (by simp[outN]) rfl (bI_length _ _ _) (by omega)
 rw[show min 32 (min n.toNat (32*(0+1))-32*0)=32 by omega,List.take_of_length_le (l:=bI (firstL [] dst n) (domL dst) 1) (by rw[bI_length];exact Nat.le_refl _)]at hr0
 rw[List.drop_zero,g1,Nat.mul_one]
 refine ⟨by omega,by omega,⟨by omega,by simp<;>omega⟩,?_⟩
 refine ⟨⟨⟨1,ys73,cap72,splice (List.replicate n.toNat 0) 0 (bI (firstL [] dst n) (domL dst) 1),x65,ys69,x67,x68⟩,⟨Nat.le_refl _,by simp only;omega,rB,by simp only;rw[hr0.1];omega,hr0.2,b4.xl⟩,?_⟩,?_⟩
 ·repeat' apply And.intro
  all_goals first | trivial | rfl
 clear hr0 g1 g2 g3 rB b4 b3 b2 b1 a5 a4 a3 a2 a1
 rintro ⟨j,b,bc,res,H,x,nx,len⟩ ⟨q1,q2,rB,q4,q5,q6⟩
 simp only at q1 q2 rB q4 q5 q6
 simp only
 have hFl:=rF.le
 have hFn:=rF.len
 have hBl:=rB.le
 have hBn:=rB.len
 refine ⟨fun hj=> ?_,fun hj=> ?_⟩
 ·simp only[decide_eq_true_eq]at hj
  rintro ys76 rfl
  refine ⟨by omega,?_⟩
  refine ⟨⟨(0,List.replicate 32 0),⟨by simp,by simp,by simp⟩,?_⟩,?_⟩
  ·repeat' apply And.intro
   all_goals first | trivial | rfl
  rintro ⟨k,w⟩ ⟨w1,w2,w3⟩
  simp only at w1 w2 w3
  simp only[Int.toNat_natCast,Nat.mul_one]
  refine ⟨fun hk=> ?_,fun hk=> ?_⟩
  ·simp only[decide_eq_true_eq]at hk
   refine ⟨by omega,by omega,?_⟩
   rintro x79 rfl
   refine ⟨by omega,by omega,?_⟩
   rintro x80 rfl x81 hx81
   refine ⟨by omega,by omega,?_⟩
   rintro x82 hx82
   rw[wrap64 (by omega) (by omega)]at hx82
   refine ⟨(k+1,w.set k x81),⟨by simp only[List.length_set];exact w1,?_,by simp only;omega⟩,?_,by simp only;omega⟩
   ·simp only
    rw[xorL_take (by omega),←w2,←hx81,List.take_add_one,List.take_set_of_le (Nat.le_refl _)]
    simp[show k<w.length by omega]
   ·repeat' apply And.intro
    all_goals first | trivial | rfl | (simp only;omega)
  simp only[decide_eq_false_iff_not]at hk
  obtain rfl:k=32:=by omega
  rw[List.take_of_length_le (by omega),List.take_of_length_le (by rw[xorL_length];exact Nat.le_refl _)]at w2
  have hxor:w=xorL (firstL [] dst n) (bI (firstL [] dst n) (domL dst) j):=by
   rw[w2]
   exact xorL_congr (by rw[rF.row,List.take_of_length_le (by rw[rF.xl];exact Nat.le_refl _)]) (by rw[rB.row,List.take_of_length_le (by rw[rB.xl];exact Nat.le_refl _)])
  have hwb:Bytes w:=by rw[hxor];exact xorL_bytes _ _
  have hw32:List.take 32 (List.drop 0 w)=w:=by rw[List.drop_zero,List.take_of_length_le (by omega)]
  rw[hw32]
  refine ⟨by omega,_,⟨by trivial,Abs.empty q6,hwb,w1,Nat.le_refl _,by omega,by simp⟩,?_⟩
  rintro x85 x86 x87 x88 c1 ys89 rfl x90 rfl
  rw[List.nil_append]at c1
  refine ⟨Nat.le_refl _,_,⟨by trivial,c1,(bytes1.drop 0).take 1,rfl,Nat.le_refl _,by omega,by rw[w1];omega⟩,?_⟩
  rintro x92 x93 x94 x95 c2' ys96 rfl
  refine ⟨by omega,_,⟨by trivial,c2',hb2,hl2,hc2,h2,by rw[List.length_append,w1];simp⟩,?_⟩
  rintro x98 x99 x100 x101 c3 ys102 rfl
  refine ⟨Nat.le_refl _,_,⟨by trivial,c3,(bytes1.drop 0).take 1,rfl,Nat.le_refl _,by omega,by rw[List.length_append,List.length_append,w1];simp;omega⟩,?_⟩
  rintro x104 x105 x106 x107 c4 ys108 rfl
  refine ⟨_,⟨by trivial,c4,by rw[List.length_append,List.length_append,List.length_append,w1];simp;omega⟩,?_⟩
  rintro ys110 cap111 ⟨g1,g2,g3⟩ ys112 rfl
  have g1:ys112.take 32=bI (firstL [] dst n) (domL dst) (j+1):=by
   rw[g1]
   show sha _=sha _
   rw[←hxor,hdom]
   simp only[List.append_assoc]
   rfl
  have rB2:Rw ys112 (bI (firstL [] dst n) (domL dst) (j+1)) 32 cap111:=⟨bI_length _ _ _,g3,g2,g1⟩
  rintro x113 hx113 x114 hx114 x115 hx115 x116 hx116 x117 hx117
  rw[wrap64 (by omega) (by omega)]at hx113
  rw[hx113,wrap64 (by omega) (by omega)]at hx114
  rw[wrap64 (by omega) (by omega)]at hx115
  have e114:x114.toNat=32*j:=by omega
  have e117:x117=((min n.toNat (32*(j+1)):Nat):Int):=by
   rw[hx117]
   split<;>omega
  have e117':x117.toNat=min n.toNat (32*(j+1)):=by omega
  have hres:=res_step (res:=res) (o:=outN (firstL [] dst n) (domL dst) j) (b:=bI (firstL [] dst n) (domL dst) (j+1)) (n:=n.toNat) (j:=j) (by omega) q5 (outN_length _ _ _) (bI_length _ _ _) (by omega)
  have htk:List.take (min 32 (x117.toNat-x114.toNat)) (List.drop 0 ys112)=(bI (firstL [] dst n) (domL dst) (j+1)).take (min 32 (min n.toNat (32*(j+1))-32*j)):=by
   rw[List.drop_zero,←g1,List.take_take,e117',e114]
   congr 1
   omega
  rw[htk,if_neg (by omega),e114]
  refine ⟨⟨⟨by omega,by omega⟩,by omega,by omega⟩,⟨by omega,by omega⟩,?_⟩
  rintro x118 hx118
  rw[wrap64 (by omega) (by omega)]at hx118
  refine ⟨⟨j+1,ys112,cap111,splice res (32*j) ((bI (firstL [] dst n) (domL dst) (j+1)).take (min 32 (min n.toNat (32*(j+1))-32*j))),x104,ys108,x106,x107⟩,⟨by simp only;omega,by simp only;omega,rB2,by simp only;rw[hres.1];omega,hres.2,c4.xl⟩,?_,by simp only;omega⟩
  repeat' apply And.intro
  all_goals first | trivial | rfl | (simp only;omega)
 simp only[decide_eq_false_iff_not]at hj
 rw[List.take_of_length_le (by omega)]at q5
 have hres:res=expand [] dst n.toNat:=by rw[q5,hexp j (by omega) (by omega)]
 exact hup.le (memL_sub [2,9,529,1177,1569,1641] rfl (by decide) (by
  intro x hx
  simp only[List.mem_cons,List.not_mem_nil,or_false]at hx ⊢
  exact .inr (.inr (.inr (.inr (.inl hx)))))) (hK (by omega) (by omega) _ hres)
end Go.Sx
namespace Go.Sx
open Go Go.Proofs
set_option maxRecDepth 100000
theorem vc_clone (xs:List Int) (l c:Nat) (K:SV→Mem→Prop):(execF cx0 u0 Tryz.f23 64 [.slice 1 (.lit 0) (.sym l) (.sym c)] (memL [(1,⟨true,.ints .u8 xs⟩)]) K)=((((0:Nat)≤(0:Nat)∧(0:Nat)≤(0:Nat))∧Nat.le (0+l *
 1) xs.length∧(0+l)*1≤549755813888∧0+l≤549755813888)∧∀(a:Nat) (b:List Int),0+l≤a∧b.length=a*1∧List.take ((0+l)*1) b=List.take 0 (List.drop 0 [])++List.take (l*1) (List.drop 0 xs)→K (.slice 553
 (.lit 0) (.sym l) (.sym a)) (memL [(1,⟨true,.ints .u8 xs⟩),(553,⟨false,.ints .u8 b⟩)])):=by kernel_rfl
theorem vc_clonen (K:SV→Mem→Prop):(execF cx0 u0 Tryz.f23 64 [.val (.slice none 0 0)] (memL []) K)=K (.val (.slice none 0 0)) Tr.leaf:=by kernel_rfl
def gClone:G0:=fun args l K=>
 match args,l with
 | [.slice 1 (.lit 0) (.sym n) (.sym _)],[(1,⟨true,.ints .u8 xs⟩)]=>
  (xs.length=n∧n≤2 ^ 39)∧∀ys cap,Rw ys xs n cap→K (.slice 553 (.lit 0) (.sym n) (.sym cap)) (memL [(553,⟨false,.ints .u8 ys⟩)])
 | [.val (.slice none 0 0)],[]=>K (.val (.slice none 0 0)) (memL [])
 | _,_=>False
theorem clone_good:Good gClone:=by
 constructor
 ·intro args l K K' hk h
  unfold gClone at h ⊢
  split at h
  ·exact ⟨h.1,fun ys cap hy=>hk _ _ (h.2 ys cap hy)⟩
  ·exact hk _ _ h
  ·exact h.elim
 ·intro args l K h
  unfold gClone at h
  split at h
  ·obtain ⟨⟨rfl,_⟩,h2⟩:=h
   exact ⟨_,_,h2 _ _ (Rw.self _)⟩
  ·exact ⟨_,_,h⟩
  ·exact h.elim
theorem clone_ok (args:List SV) (l:List (Nat×Reg)) (K:SV→Mem→Prop) (hup:KUp K) (h:gClone args l K):∃U,execF cx0 U Tryz.f23 64 args (memL l) K:=by
 refine ⟨u0,?_⟩
 unfold gClone at h
 split at h
 ·obtain ⟨⟨h1,h2⟩,h3⟩:=h
  rw[vc_clone]
  refine ⟨⟨by omega,nle (by omega),by omega,by omega⟩,fun cap ys e=> ?_⟩
  exact hup.le (memL_sub [1,553] rfl (by decide) (by
   intro x hx
   simp only[List.mem_cons,List.not_mem_nil,or_false]at hx ⊢
   exact .inr hx)) (h3 _ _ (Rw.first h1 e))
 ·rw[vc_clonen]
  exact h
 ·exact h.elim
def cClone:Ef Tryz.prog:=mkE mixed 23 Tryz.func23 (by decide) (by kernel_rfl) [] [.sl 1 true] gClone clone_good clone_ok
def exK (msg dst:List Int) (n:Int) (K:SV→Mem→Prop):Prop:=
 (n>8160→∀s,K (.tup [.val (.slice none 0 0),.iface 155 (.ptr 633 (.lit 0))]) (memL [(633,⟨false,.cells [.val (.string s)]⟩)]))∧
 (n≤8160→dst.length>255→∀s,K (.tup [.val (.slice none 0 0),.iface 155 (.ptr 657 (.lit 0))]) (memL [(657,⟨false,.cells [.val (.string s)]⟩)]))∧
 (n≤8160→dst.length≤255→∀ys,ys=expand msg dst n.toNat→K (.tup [.slice 1569 (.lit 0) (.sym n.toNat) (.sym n.toNat),.val .nilIface]) (memL [(1569,⟨false,.ints .u8 ys⟩)]))
def gEX:G0:=fun args l K=>
 match args,l with
 | [.slice 9 (.lit 0) (.sym n1) (.sym c1),.slice 17 (.lit 0) (.sym n2) (.sym c2),.int .i64 (.sym n)],[(2,⟨true,.ints .u32 ks⟩),(9,⟨true,.ints .u8 msg⟩),(17,⟨true,.ints .u8 dst⟩)]=>
  (ks=kL∧msg.length=n1∧dst.length=n2∧n1≤c1∧n2≤c2∧Bytes msg∧Bytes dst∧n1≤65536∧n2≤65536∧32≤n∧n≤65536)∧exK msg dst n K
 | [.val (.slice none 0 0),.slice 9 (.lit 0) (.sym n2) (.sym c2),.int .i64 (.sym n)],[(2,⟨true,.ints .u32 ks⟩),(9,⟨true,.ints .u8 dst⟩)]=>
  (ks=kL∧dst.length=n2∧n2≤c2∧Bytes dst∧n2≤65536∧32≤n∧n≤65536)∧exK [] dst n K
 | _,_=>False
theorem exK_mono {msg dst:List Int} {n:Int} {K K':SV→Mem→Prop} (hk:∀v m,K v m→K' v m) (h:exK msg dst n K):exK msg dst n K':=
 ⟨fun a s=>hk _ _ (h.1 a s),fun a b s=>hk _ _ (h.2.1 a b s),fun a b ys e=>hk _ _ (h.2.2 a b ys e)⟩
theorem exK_live {msg dst:List Int} {n:Int} {K:SV→Mem→Prop} (h:exK msg dst n K):∃v m,K v m:=by
 by_cases h1:n>8160
 ·exact ⟨_,_,h.1 h1 .empty⟩
 ·by_cases h2:dst.length>255
  ·exact ⟨_,_,h.2.1 (by omega) h2 .empty⟩
  ·exact ⟨_,_,h.2.2 (by omega) (by omega) _ rfl⟩
theorem ex_good:Good gEX:=by
 constructor
 ·intro args l K K' hk h
  unfold gEX at h ⊢
  split at h
  ·exact ⟨h.1,exK_mono hk h.2⟩
  ·exact ⟨h.1,exK_mono hk h.2⟩
  ·exact h.elim
 ·intro args l K h
  unfold gEX at h
  split at h
  ·exact exK_live h.2
  ·exact exK_live h.2
  ·exact h.elim
theorem ex_ok (args:List SV) (l:List (Nat×Reg)) (K:SV→Mem→Prop) (hup:KUp K) (h:gEX args l K):∃U,execF cxEX U Tryz.f100 64 args (memL l) K:=by
 unfold gEX at h
 split at h
 ·rename_i n1 c1 n2 c2 n ks msg dst
  obtain ⟨⟨hk,h1,h2,h3,h4,h5,h6,h7,h8,h9,h10⟩,ha,hb,hc⟩:=h
  subst hk
  subst h2
  exact ⟨uEX 17 msg dst n,ex_walk msg dst n1 c1 _ c2 n K h1 rfl h3 h4 h5 h6 h7 h8 h9 h10 hup ha hb hc⟩
 ·rename_i n2 c2 n ks dst
  obtain ⟨⟨hk,h2,h4,h6,h8,h9,h10⟩,ha,hb,hc⟩:=h
  subst hk
  subst h2
  exact ⟨uEX 9 [] dst n,exn_walk dst _ c2 n K rfl h4 h6 h8 h9 h10 hup ha hb hc⟩
 ·exact h.elim
def cEX:Ef Tryz.prog:=mkE mixed 100 Tryz.func100 (by decide) (by kernel_rfl) [1] [.sl 1 true,.sl 1 true,.num] gEX ex_good ex_ok
def cxFH:Cx Tryz.prog:= { rds:= [],efs:= [cEX,cSY],eqs:= [] }
def elW (x:Nat):List Int:= [lm x 0,lm x 1,lm x 2,lm x 3]
def hfW (f:Nat→Nat):Nat→List Int
 | 0=> []
 | n+1=>hfW f n++elW (f n)
def chN (ys:List Int) (j:Nat):Nat:=beN ((ys.drop (48*j)).take 48)
def liFH (ys:List Int) (n:Nat):LI where
 ι:=Nat×List Int
 keep:= [9,11,27]
 keepR:= [2,577]
 F:=fun s=>⟨[(28,i64n s.1)],[(649,⟨false,.ints .u64 s.2⟩)]⟩
 I:=fun _ s=>s.1≤n∧s.2.length=n*4∧s.2.take (4*s.1)=hfW (fun j=>mont (chN ys j)) s.1
 μ:=fun s=>n-s.1
def uFH (ys:List Int) (n:Nat):Nat→Lp:=fun b=>match b with | 0=> .inv (liFH ys n) | _=> .un 0
theorem vc_fh (ex msg dst:List Int) (l c l2 c2:Nat) (n:Int) (K:SV→Mem→Prop):(execF cxFH (uFH ex n.toNat) Tryz.f53 64 [.slice 9 (.lit 0) (.sym l) (.sym c),.slice 17 (.lit 0) (.sym l2) (.sym c2),.int .i64 (.sym n)] (memL [(2,
 ⟨true,.ints .u32 kL⟩),(9,⟨true,.ints .u8 msg⟩),(17,⟨true,.ints .u8 dst⟩)]) K)=(∀a,a=IntKind.wrap IntKind.i64 (n*48)→(0+l*1≤msg.length∧0+l2*1≤dst.length)∧(kL=kL∧List.length (List.take (l*1) (List.drop
 0 msg))=l∧List.length (List.take (l2*1) (List.drop 0 dst))=l2∧l≤c∧l2≤c2∧Bytes (List.take (l*1) (List.drop 0 msg))∧Bytes (List.take (l2*1) (List.drop 0 dst))∧l≤65536∧l2≤65536∧32≤a∧a≤65536)∧(a>8160
 →∀p:ByteArray,K (.tup [.val (.slice none 0 0),.iface 155 (.ptr 577 (.lit 0))]) (memL [(2,⟨true,.ints .u32 kL⟩),(9,⟨true,.ints .u8 msg⟩),(17,⟨true,.ints .u8 dst⟩),(577,⟨false,.cells [.val (.string p)]⟩)]))∧(a≤8160→
 (List.length (List.take (l2*1) (List.drop 0 dst))>255→∀q:ByteArray,K (.tup [.val (.slice none 0 0),.iface 155 (.ptr 577 (.lit 0))]) (memL [(2,⟨true,.ints .u32 kL⟩),(9,⟨true,.ints .u8 msg⟩),(17,⟨true,.ints .u8 dst⟩),(577,
 ⟨false,.cells [.val (.string q)]⟩)])))∧(a≤8160→(List.length (List.take (l2*1) (List.drop 0 dst))≤255→∀j:List Int,j=expand (List.take (l*1) (List.drop 0 msg)) (List.take (l2*1) (List.drop 0 dst)) (Int.toNat a)→∀f:
 List Int,f=j→(0≤n∧n*32≤140737488355328∧n≤140737488355328)∧((∃i:Prod Nat (List Int),(Prod.fst i≤Int.toNat n∧List.length (Prod.snd i)=Int.toNat n*4∧List.take (4*Prod.fst i) (Prod.snd i)=hfW (fun ( r:Nat
 )=>mont (chN ex r)) (Prod.fst i))∧((Int.toNat a=Int.toNat a∧Int.toNat a=Int.toNat a)∧(Int.toNat n=Int.toNat n∧Int.toNat n=Int.toNat n)∧n=n∧0=((Prod.fst i:Nat):Int))∧kL=kL∧f=f∧List.replicate
 (Int.toNat n*4) (0:Int)=Prod.snd i)∧∀b:Prod Nat (List Int),Prod.fst b≤Int.toNat n∧List.length (Prod.snd b)=Int.toNat n*4∧List.take (4*Prod.fst b) (Prod.snd b)=hfW (fun ( s:Nat )=>mont (chN ex s)) (Prod.fst b)
 →(decide (((Prod.fst b:Nat):Int)<n)=true→((0≤((Prod.fst b:Nat):Int)∧((Prod.fst b:Nat):Int)<((Int.toNat n:Nat):Int))∧∀d,d=IntKind.wrap IntKind.i64 (((Prod.fst b:Nat):Int)*48)→∀k,k=IntKind.wrap
 IntKind.i64 (((Prod.fst b:Nat):Int)+1)→∀e,e=IntKind.wrap IntKind.i64 (k*48)→((0≤e∧e≤((Int.toNat a:Nat):Int))∧0≤d∧d≤((Int.toNat e:Nat):Int))∧(Int.toNat ((Prod.fst b:Nat):Int)*4+4≤List.length
 (Prod.snd b)∧(if Int.toNat a=Int.toNat d then (0:Nat)else Int.toNat d*1)+(Int.toNat e-Int.toNat d)*1≤f.length)∧((List.length (List.take ((Int.toNat e-Int.toNat d)*1) (List.drop (if Int.toNat a=Int.toNat d then (0:
 Nat)else Int.toNat d*1) f))=Int.toNat e-Int.toNat d∧Int.toNat e-Int.toNat d≠32∧Int.toNat e-Int.toNat d<1099511627776∧Bytes (List.take ((Int.toNat e-Int.toNat d)*1) (List.drop (if Int.toNat a=Int.toNat d then (0:
 Nat)else Int.toNat d*1) f)))∧∀g:Nat,g=mont (beN (List.take ((Int.toNat e-Int.toNat d)*1) (List.drop (if Int.toNat a=Int.toNat d then (0:Nat)else Int.toNat d*1) f)))→(Int.toNat ((Prod.fst b:Nat):Int)*4 +
 List.length [lm g 0,lm g 1,lm g 2,lm g 3]≤List.length (Prod.snd b)∧∀m:List Int,m=splice (Prod.snd b) (Int.toNat ((Prod.fst b:Nat):Int)*4) [lm g 0,lm g 1,lm g 2,lm g 3]→∀o,o=IntKind.wrap IntKind.i64 (((Prod.fst b
 :Nat):Int)+1)→∃h:Prod Nat (List Int),(Prod.fst h≤Int.toNat n∧List.length (Prod.snd h)=Int.toNat n*4∧List.take (4*Prod.fst h) (Prod.snd h)=hfW (fun ( t:Nat )=>mont (chN ex t)) (Prod.fst h))∧(((Int.toNat a=
 Int.toNat a∧Int.toNat a=Int.toNat a)∧(Int.toNat n=Int.toNat n∧Int.toNat n=Int.toNat n)∧n=n∧o=((Prod.fst h:Nat):Int))∧kL=kL∧f=f∧m=Prod.snd h)∧Int.toNat n-Prod.fst h<Int.toNat n-Prod.fst b))))∧
 (decide (((Prod.fst b:Nat):Int)<n)=false→K (.tup [.slice 649 (.lit 0) (.sym (Int.toNat n)) (.sym (Int.toNat n)),.val .nilIface]) (memL [(2,⟨true,.ints .u32 kL⟩),(577,⟨false,.ints .u8 f⟩),(649,⟨false,.ints .u64 (Prod.snd
 b)⟩)])))))):=by kernel_rfl
theorem vc_fhn (ex dst:List Int) (l2 c2:Nat) (n:Int) (K:SV→Mem→Prop):(execF cxFH (uFH ex n.toNat) Tryz.f53 64 [.val (.slice none 0 0),.slice 9 (.lit 0) (.sym l2) (.sym c2),.int .i64 (.sym n)] (memL [(2,⟨true,.ints .u32
 kL⟩),(9,⟨true,.ints .u8 dst⟩)]) K)=(∀a,a=IntKind.wrap IntKind.i64 (n*48)→0+l2*1≤dst.length∧(kL=kL∧List.length (List.take (l2*1) (List.drop 0 dst))=l2∧l2≤c2∧Bytes (List.take (l2*1) (List.drop 0 dst))∧
 l2≤65536∧32≤a∧a≤65536)∧(a>8160→∀m:ByteArray,K (.tup [.val (.slice none 0 0),.iface 155 (.ptr 577 (.lit 0))]) (memL [(2,⟨true,.ints .u32 kL⟩),(9,⟨true,.ints .u8 dst⟩),(577,⟨false,.cells [.val (.string m)]⟩)]))∧
 (a≤8160→(List.length (List.take (l2*1) (List.drop 0 dst))>255→∀o:ByteArray,K (.tup [.val (.slice none 0 0),.iface 155 (.ptr 577 (.lit 0))]) (memL [(2,⟨true,.ints .u32 kL⟩),(9,⟨true,.ints .u8 dst⟩),(577,⟨false,.cells
 [.val (.string o)]⟩)])))∧(a≤8160→(List.length (List.take (l2*1) (List.drop 0 dst))≤255→∀i:List Int,i=expand [] (List.take (l2*1) (List.drop 0 dst)) (Int.toNat a)→∀e:List Int,e=i→(0≤n∧n*32≤
 140737488355328∧n≤140737488355328)∧((∃h:Prod Nat (List Int),(Prod.fst h≤Int.toNat n∧List.length (Prod.snd h)=Int.toNat n*4∧List.take (4*Prod.fst h) (Prod.snd h)=hfW (fun ( p:Nat )=>mont (chN ex p)) (Prod.fst h))
 ∧((Int.toNat a=Int.toNat a∧Int.toNat a=Int.toNat a)∧(Int.toNat n=Int.toNat n∧Int.toNat n=Int.toNat n)∧n=n∧0=((Prod.fst h:Nat):Int))∧kL=kL∧e=e∧List.replicate (Int.toNat n*4) (0:Int)=Prod.snd h)∧∀
 b:Prod Nat (List Int),Prod.fst b≤Int.toNat n∧List.length (Prod.snd b)=Int.toNat n*4∧List.take (4*Prod.fst b) (Prod.snd b)=hfW (fun ( q:Nat )=>mont (chN ex q)) (Prod.fst b)→(decide (((Prod.fst b:Nat):Int)<n)=
 true→((0≤((Prod.fst b:Nat):Int)∧((Prod.fst b:Nat):Int)<((Int.toNat n:Nat):Int))∧∀c,c=IntKind.wrap IntKind.i64 (((Prod.fst b:Nat):Int)*48)→∀j,j=IntKind.wrap IntKind.i64 (((Prod.fst b:Nat):Int)+1)
 →∀d,d=IntKind.wrap IntKind.i64 (j*48)→((0≤d∧d≤((Int.toNat a:Nat):Int))∧0≤c∧c≤((Int.toNat d:Nat):Int))∧(Int.toNat ((Prod.fst b:Nat):Int)*4+4≤List.length (Prod.snd b)∧(if Int.toNat a=Int.toNat c
 then (0:Nat)else Int.toNat c*1)+(Int.toNat d-Int.toNat c)*1≤e.length)∧((List.length (List.take ((Int.toNat d-Int.toNat c)*1) (List.drop (if Int.toNat a=Int.toNat c then (0:Nat)else Int.toNat c*1) e))=Int.toNat d
 - Int.toNat c∧Int.toNat d-Int.toNat c≠32∧Int.toNat d-Int.toNat c<1099511627776∧Bytes (List.take ((Int.toNat d-Int.toNat c)*1) (List.drop (if Int.toNat a=Int.toNat c then (0:Nat)else Int.toNat c*1) e)))∧∀f:Nat,
 f=mont (beN (List.take ((Int.toNat d-Int.toNat c)*1) (List.drop (if Int.toNat a=Int.toNat c then (0:Nat)else Int.toNat c*1) e)))→(Int.toNat ((Prod.fst b:Nat):Int)*4+List.length [lm f 0,lm f 1,lm f 2,lm f 3]≤
 List.length (Prod.snd b)∧∀k:List Int,k=splice (Prod.snd b) (Int.toNat ((Prod.fst b:Nat):Int)*4) [lm f 0,lm f 1,lm f 2,lm f 3]→∀l,l=IntKind.wrap IntKind.i64 (((Prod.fst b:Nat):Int)+1)→∃g:Prod Nat (List
 Int),(Prod.fst g≤Int.toNat n∧List.length (Prod.snd g)=Int.toNat n*4∧List.take (4*Prod.fst g) (Prod.snd g)=hfW (fun ( r:Nat )=>mont (chN ex r)) (Prod.fst g))∧(((Int.toNat a=Int.toNat a∧Int.toNat a=Int.toNat a)∧
 (Int.toNat n=Int.toNat n∧Int.toNat n=Int.toNat n)∧n=n∧l=((Prod.fst g:Nat):Int))∧kL=kL∧e=e∧k=Prod.snd g)∧Int.toNat n-Prod.fst g<Int.toNat n-Prod.fst b))))∧(decide (((Prod.fst b:Nat):Int)<n)=
 false→K (.tup [.slice 649 (.lit 0) (.sym (Int.toNat n)) (.sym (Int.toNat n)),.val .nilIface]) (memL [(2,⟨true,.ints .u32 kL⟩),(577,⟨false,.ints .u8 e⟩),(649,⟨false,.ints .u64 (Prod.snd b)⟩)])))))):=by kernel_rfl
theorem fh_step {w:List Int} {n i r:Nat} {f:Nat→Nat} (hi:i<n) (hwl:w.length=n*4) (hw:w.take (4*i)=hfW f i) (hr:r=f i):
  (splice w (i*4) [lm r 0,lm r 1,lm r 2,lm r 3]).length=n*4∧(splice w (i*4) [lm r 0,lm r 1,lm r 2,lm r 3]).take (4*(i+1))=hfW f (i+1):=by
 rw[Nat.mul_comm i 4]
 refine ⟨?_,?_⟩
 ·rw[splice_length (by simp only[List.length_cons,List.length_nil];omega)]
  exact hwl
 ·have:=take_splice_mid (x:=w) (n:=4*i) (q:= [lm r 0,lm r 1,lm r 2,lm r 3]) (by omega)
  rw[show 4*(i+1)=4*i+ [lm r 0,lm r 1,lm r 2,lm r 3].length by simp only[List.length_cons,List.length_nil];omega,this,hw,hr]
  rfl
theorem fh_walk (msg dst:List Int) (l c l2 c2:Nat) (n:Int) (K:SV→Mem→Prop) (h1:msg.length=l) (h2:dst.length=l2) (hc1:l≤c) (hc2:l2≤c2) (b1:Bytes msg) (b2:Bytes dst) (m1:l≤65536) (m2:l2≤65536) (n1:1≤n) (n2:n≤170) (hup:KUp K)
  (hE:dst.length>255→∀s,K (.tup [.val (.slice none 0 0),.iface 155 (.ptr 577 (.lit 0))]) (memL [(577,⟨false,.cells [.val (.string s)]⟩)]))
  (hS:dst.length≤255→∀ws,ws=hfW (fun j=>mont (chN (expand msg dst (n*48).toNat) j)) n.toNat→K (.tup [.slice 649 (.lit 0) (.sym n.toNat) (.sym n.toNat),.val .nilIface]) (memL [(649,⟨false,.ints .u64 ws⟩)])):
  execF cxFH (uFH (expand msg dst (n*48).toNat) n.toNat) Tryz.f53 64 [.slice 9 (.lit 0) (.sym l) (.sym c),.slice 17 (.lit 0) (.sym l2) (.sym c2),.int .i64 (.sym n)] (memL [(2,⟨true,.ints .u32 kL⟩),(9,⟨true,.ints .u8 msg⟩),(17,⟨true,.ints .u8 dst⟩)]) K:=by
 have t1:List.take (l*1) (List.drop 0 msg)=msg:=by rw[Nat.mul_one,List.drop_zero,←h1,List.take_length]
 have t2:List.take (l2*1) (List.drop 0 dst)=dst:=by rw[Nat.mul_one,List.drop_zero,←h2,List.take_length]
 rw[vc_fh]
 intro x0 h0
 rw[wrap64 (by omega) (by omega)]at h0
 simp only[t1,t2]
 refine ⟨⟨by omega,by omega⟩,⟨trivial,h1,h2,hc1,hc2,b1,b2,m1,m2,by omega,by omega⟩,fun h=>absurd h (by omega),fun _ h s=> ?_,fun _ hd=> ?_⟩
 ·exact hup.le (memL_sub [2,9,17,577] rfl (by decide) (by
   intro x hx
   simp only[List.mem_cons,List.not_mem_nil,or_false]at hx ⊢
   simp[hx])) (hE h s)
 ·intro ys3 h3'
  intro ys4 h4
  have ey:ys4=expand msg dst (n*48).toNat:=by rw[h4,h3',h0]
  refine ⟨⟨by omega,by omega,by omega⟩,⟨(0,List.replicate (n.toNat*4) 0),⟨⟨Nat.zero_le _,by simp,by simp[hfW]⟩,by simp⟩⟩,?_⟩
  rintro ⟨i,w⟩ ⟨hi,hwl,hw⟩
  dsimp only at hi hwl hw ⊢
  refine ⟨fun h=> ?_,fun h=> ?_⟩
  ·simp only[decide_eq_true_eq]at h
   refine ⟨⟨by omega,by omega⟩,?_⟩
   rintro x9 h9 x10 h10 x11 h11
   rw[wrap64 (by omega) (by omega)]at h9 h10
   rw[wrap64 (by omega) (by omega)]at h11
   have e9:x9.toNat=48*i:=by omega
   have e11:x11.toNat=48*i+48:=by omega
   have e0:x0.toNat=48*n.toNat:=by omega
   have yl:ys4.length=48*n.toNat:=by rw[ey,expand_length];omega
   have hi':i<n.toNat:=by omega
   simp only[e9,e11,e0,Int.toNat_natCast,Nat.mul_one]
   rw[if_neg (by omega),show 48*i+48-48*i=48 by omega]
   refine ⟨⟨⟨by omega,by omega⟩,by omega,by omega⟩,⟨by omega,by omega⟩,⟨?_,by decide,by decide,?_⟩,?_⟩
   ·rw[List.length_take,List.length_drop];omega
   ·rw[ey]
    exact fun z hz=>expand_bytes _ _ _ z (List.mem_of_mem_drop (List.mem_of_mem_take hz))
   intro r12 h12
   refine ⟨by simp only[List.length_cons,List.length_nil];omega,?_⟩
   rintro ys13 h13 x14 h14
   rw[wrap64 (by omega) (by omega)]at h14
   obtain ⟨s1,s2⟩:=fh_step (r:=r12) hi' hwl hw (by rw[h12,←ey];rfl)
   rw[←h13]at s1 s2
   refine ⟨(i+1,ys13),⟨hi',s1,s2⟩,?_⟩
   repeat' apply And.intro
   all_goals first | rfl | trivial | (simp only;omega)
  ·simp only[decide_eq_false_iff_not]at h
   have hin:i=n.toNat:=by omega
   have e:w=hfW (fun j=>mont (chN (expand msg dst (n*48).toNat) j)) n.toNat:=by
    rw[hin,List.take_of_length_le (by omega)]at hw
    exact hw
   exact hup.le (memL_sub [2,577,649] rfl (by decide) (by
    intro x hx
    simp only[List.mem_cons,List.not_mem_nil,or_false]at hx ⊢
    simp[hx])) (hS hd w e)
theorem fhn_walk (dst:List Int) (l2 c2:Nat) (n:Int) (K:SV→Mem→Prop) (h2:dst.length=l2) (hc2:l2≤c2) (b2:Bytes dst) (m2:l2≤65536) (n1:1≤n) (n2:n≤170) (hup:KUp K)
  (hE:dst.length>255→∀s,K (.tup [.val (.slice none 0 0),.iface 155 (.ptr 577 (.lit 0))]) (memL [(577,⟨false,.cells [.val (.string s)]⟩)]))
  (hS:dst.length≤255→∀ws,ws=hfW (fun j=>mont (chN (expand [] dst (n*48).toNat) j)) n.toNat→K (.tup [.slice 649 (.lit 0) (.sym n.toNat) (.sym n.toNat),.val .nilIface]) (memL [(649,⟨false,.ints .u64 ws⟩)])):
  execF cxFH (uFH (expand [] dst (n*48).toNat) n.toNat) Tryz.f53 64 [.val (.slice none 0 0),.slice 9 (.lit 0) (.sym l2) (.sym c2),.int .i64 (.sym n)] (memL [(2,⟨true,.ints .u32 kL⟩),(9,⟨true,.ints .u8 dst⟩)]) K:=by
 have t2:List.take (l2*1) (List.drop 0 dst)=dst:=by rw[Nat.mul_one,List.drop_zero,←h2,List.take_length]
 rw[vc_fhn]
 intro x0 h0
 rw[wrap64 (by omega) (by omega)]at h0
 simp only[t2]
 refine ⟨by omega,⟨trivial,h2,hc2,b2,m2,by omega,by omega⟩,fun h=>absurd h (by omega),fun _ h s=> ?_,fun _ hd=> ?_⟩
 ·exact hup.le (memL_sub [2,9,577] rfl (by decide) (by
   intro x hx
   simp only[List.mem_cons,List.not_mem_nil,or_false]at hx ⊢
   simp[hx])) (hE h s)
 ·intro ys3 h3'
  intro ys4 h4
  have ey:ys4=expand [] dst (n*48).toNat:=by rw[h4,h3',h0]
  refine ⟨⟨by omega,by omega,by omega⟩,⟨(0,List.replicate (n.toNat*4) 0),⟨⟨Nat.zero_le _,by simp,by simp[hfW]⟩,by simp⟩⟩,?_⟩
  rintro ⟨i,w⟩ ⟨hi,hwl,hw⟩
  dsimp only at hi hwl hw ⊢
  refine ⟨fun h=> ?_,fun h=> ?_⟩
  ·simp only[decide_eq_true_eq]at h
   refine ⟨⟨by omega,by omega⟩,?_⟩
   rintro x9 h9 x10 h10 x11 h11
   rw[wrap64 (by omega) (by omega)]at h9 h10
   rw[wrap64 (by omega) (by omega)]at h11
   have e9:x9.toNat=48*i:=by omega
   have e11:x11.toNat=48*i+48:=by omega
   have e0:x0.toNat=48*n.toNat:=by omega
   have yl:ys4.length=48*n.toNat:=by rw[ey,expand_length];omega
   have hi':i<n.toNat:=by omega
   simp only[e9,e11,e0,Int.toNat_natCast,Nat.mul_one]
   rw[if_neg (by omega),show 48*i+48-48*i=48 by omega]
   refine ⟨⟨⟨by omega,by omega⟩,by omega,by omega⟩,⟨by omega,by omega⟩,⟨?_,by decide,by decide,?_⟩,?_⟩
   ·rw[List.length_take,List.length_drop];omega
   ·rw[ey]
    exact fun z hz=>expand_bytes _ _ _ z (List.mem_of_mem_drop (List.mem_of_mem_take hz))
   intro r12 h12
   refine ⟨by simp only[List.length_cons,List.length_nil];omega,?_⟩
   rintro ys13 h13 x14 h14
   rw[wrap64 (by omega) (by omega)]at h14
   obtain ⟨s1,s2⟩:=fh_step (r:=r12) hi' hwl hw (by rw[h12,←ey];rfl)
   rw[←h13]at s1 s2
   refine ⟨(i+1,ys13),⟨hi',s1,s2⟩,?_⟩
   repeat' apply And.intro
   all_goals first | rfl | trivial | (simp only;omega)
  ·simp only[decide_eq_false_iff_not]at h
   have hin:i=n.toNat:=by omega
   have e:w=hfW (fun j=>mont (chN (expand [] dst (n*48).toNat) j)) n.toNat:=by
    rw[hin,List.take_of_length_le (by omega)]at hw
    exact hw
   exact hup.le (memL_sub [2,577,649] rfl (by decide) (by
    intro x hx
    simp only[List.mem_cons,List.not_mem_nil,or_false]at hx ⊢
    simp[hx])) (hS hd w e)
def fhK (msg dst:List Int) (n:Int) (K:SV→Mem→Prop):Prop:=
 (dst.length>255→∀s,K (.tup [.val (.slice none 0 0),.iface 155 (.ptr 577 (.lit 0))]) (memL [(577,⟨false,.cells [.val (.string s)]⟩)]))∧
 (dst.length≤255→∀ws,ws=hfW (fun j=>mont (chN (expand msg dst (n*48).toNat) j)) n.toNat→K (.tup [.slice 649 (.lit 0) (.sym n.toNat) (.sym n.toNat),.val .nilIface]) (memL [(649,⟨false,.ints .u64 ws⟩)]))
def gFH:G0:=fun args l K=>
 match args,l with
 | [.slice 9 (.lit 0) (.sym n1) (.sym c1),.slice 17 (.lit 0) (.sym n2) (.sym c2),.int .i64 (.sym n)],[(2,⟨true,.ints .u32 ks⟩),(9,⟨true,.ints .u8 msg⟩),(17,⟨true,.ints .u8 dst⟩)]=>
  (ks=kL∧msg.length=n1∧dst.length=n2∧n1≤c1∧n2≤c2∧Bytes msg∧Bytes dst∧n1≤65536∧n2≤65536∧1≤n∧n≤170)∧fhK msg dst n K
 | [.val (.slice none 0 0),.slice 9 (.lit 0) (.sym n2) (.sym c2),.int .i64 (.sym n)],[(2,⟨true,.ints .u32 ks⟩),(9,⟨true,.ints .u8 dst⟩)]=>
  (ks=kL∧dst.length=n2∧n2≤c2∧Bytes dst∧n2≤65536∧1≤n∧n≤170)∧fhK [] dst n K
 | _,_=>False
theorem fhK_mono {msg dst:List Int} {n:Int} {K K':SV→Mem→Prop} (hk:∀v m,K v m→K' v m) (h:fhK msg dst n K):fhK msg dst n K':=
 ⟨fun a s=>hk _ _ (h.1 a s),fun a ys e=>hk _ _ (h.2 a ys e)⟩
theorem fhK_live {msg dst:List Int} {n:Int} {K:SV→Mem→Prop} (h:fhK msg dst n K):∃v m,K v m:=by
 by_cases h2:dst.length>255
 ·exact ⟨_,_,h.1 h2 .empty⟩
 ·exact ⟨_,_,h.2 (by omega) _ rfl⟩
theorem fh_good:Good gFH:=by
 constructor
 ·intro args l K K' hk h
  unfold gFH at h ⊢
  split at h
  ·exact ⟨h.1,fhK_mono hk h.2⟩
  ·exact ⟨h.1,fhK_mono hk h.2⟩
  ·exact h.elim
 ·intro args l K h
  unfold gFH at h
  split at h
  ·exact fhK_live h.2
  ·exact fhK_live h.2
  ·exact h.elim
theorem fh_ok (args:List SV) (l:List (Nat×Reg)) (K:SV→Mem→Prop) (hup:KUp K) (h:gFH args l K):∃U,execF cxFH U Tryz.f53 64 args (memL l) K:=by
 unfold gFH at h
 split at h
 ·rename_i n1 c1 n2 c2 n ks msg dst
  obtain ⟨⟨hk,h1,h2,h3,h4,h5,h6,h7,h8,h9,h10⟩,ha,hb⟩:=h
  subst hk
  exact ⟨_,fh_walk msg dst n1 c1 n2 c2 n K h1 h2 h3 h4 h5 h6 h7 h8 h9 h10 hup ha hb⟩
 ·rename_i n2 c2 n ks dst
  obtain ⟨⟨hk,h2,h4,h6,h8,h9,h10⟩,ha,hb⟩:=h
  subst hk
  exact ⟨_,fhn_walk dst n2 c2 n K h2 h4 h6 h8 h9 h10 hup ha hb⟩
 ·exact h.elim
def cFH:Ef Tryz.prog:=mkE mixed 53 Tryz.func53 (by decide) (by kernel_rfl) [1] [.sl 1 true,.sl 1 true,.num] gFH fh_good fh_ok
def ag4 (a b c d:Int):SV:= .agg [.int .u64 (.sym a),.int .u64 (.sym b),.int .u64 (.sym c),.int .u64 (.sym d)]
def pv (l:List Int):Nat→Int
 | 0=>0
 | i+1=>pv l i+l.getD i 0*18446744073709551616 ^ i
structure WI where
 i:Nat
 c:Int
 o:List Int
def liSum (a b:List Int):LI where
 ι:=WI
 keep:= [2,3,4,5,6]
 keepR:= [529]
 F:=fun s=>⟨[(7,.int .u64 (.sym s.c)),(8,i64n s.i)],[(513,⟨false,.ints .u64 a⟩),(521,⟨false,.ints .u64 b⟩),(553,⟨false,.ints .u64 s.o⟩)]⟩
 I:=fun _ s=>s.i≤4∧s.o.length=4∧(∀x∈s.o,Wd x)∧0≤s.c∧s.c≤1∧pv s.o s.i+s.c*18446744073709551616 ^ s.i=pv a s.i+pv b s.i
 μ:=fun s=>4-s.i
def liDif (a b:List Int):LI where
 ι:=WI
 keep:= [2,3,4,5]
 keepR:= [529]
 F:=fun s=>⟨[(6,.int .u64 (.sym s.c)),(7,i64n s.i)],[(513,⟨false,.ints .u64 a⟩),(521,⟨false,.ints .u64 b⟩),(545,⟨false,.ints .u64 s.o⟩)]⟩
 I:=fun _ s=>s.i≤4∧s.o.length=4∧(∀x∈s.o,Wd x)∧0≤s.c∧s.c≤1∧pv s.o s.i=pv a s.i-pv b s.i+s.c*18446744073709551616 ^ s.i
 μ:=fun s=>4-s.i
theorem vc_less (a0 a1 a2 a3 b0 b1 b2 b3:Int) (K:SV→Mem→Prop):(execF cx0 u9 Tryz.f13 64 [ag4 a0 a1 a2 a3,ag4 b0 b1 b2 b3] (memL []) K)=(((a3 !=b3)=true→K (.bool (.sym (decide (a3<b3)))) (memL [(513,⟨false,.cells [.int
 .u64 (.sym a0),.int .u64 (.sym a1),.int .u64 (.sym a2),.int .u64 (.sym a3)]⟩),(521,⟨false,.cells [.int .u64 (.sym b0),.int .u64 (.sym b1),.int .u64 (.sym b2),.int .u64 (.sym b3)]⟩)]))∧((a3 !=b3)=false→((a2 !=b2)=true→K
 (.bool (.sym (decide (a2<b2)))) (memL [(513,⟨false,.cells [.int .u64 (.sym a0),.int .u64 (.sym a1),.int .u64 (.sym a2),.int .u64 (.sym a3)]⟩),(521,⟨false,.cells [.int .u64 (.sym b0),.int .u64 (.sym b1),.int .u64 (.sym b2),.int
 .u64 (.sym b3)]⟩)]))∧((a2 !=b2)=false→((a1 !=b1)=true→K (.bool (.sym (decide (a1<b1)))) (memL [(513,⟨false,.cells [.int .u64 (.sym a0),.int .u64 (.sym a1),.int .u64 (.sym a2),.int .u64 (.sym a3)]⟩),(521,⟨false,.cells
 [.int .u64 (.sym b0),.int .u64 (.sym b1),.int .u64 (.sym b2),.int .u64 (.sym b3)]⟩)]))∧((a1 !=b1)=false→((a0 !=b0)=true→K (.bool (.sym (decide (a0<b0)))) (memL [(513,⟨false,.cells [.int .u64 (.sym a0),.int .u64 (.sym
 a1),.int .u64 (.sym a2),.int .u64 (.sym a3)]⟩),(521,⟨false,.cells [.int .u64 (.sym b0),.int .u64 (.sym b1),.int .u64 (.sym b2),.int .u64 (.sym b3)]⟩)]))∧((a0 !=b0)=false→K (.bool (.lit false)) (memL [(513,⟨false,.cells
 [.int .u64 (.sym a0),.int .u64 (.sym a1),.int .u64 (.sym a2),.int .u64 (.sym a3)]⟩),(521,⟨false,.cells [.int .u64 (.sym b0),.int .u64 (.sym b1),.int .u64 (.sym b2),.int .u64 (.sym b3)]⟩)])))))):=by kernel_rfl
def rLs:R0:=fun args l=>
 match args,l with
 | [.agg [.int .u64 (.sym a0),.int .u64 (.sym a1),.int .u64 (.sym a2),.int .u64 (.sym a3)],.agg [.int .u64 (.sym b0),.int .u64 (.sym b1),.int .u64 (.sym b2),.int .u64 (.sym b3)]],[]=>
  some (some ((Wd a0∧Wd a1∧Wd a2∧Wd a3)∧Wd b0∧Wd b1∧Wd b2∧Wd b3),.bool (.sym (decide (V4 a0 a1 a2 a3<V4 b0 b1 b2 b3))))
 | _,_=>none
theorem ls_ok (args:List SV) (l:List (Nat×Reg)) (p:Ob) (v:SV) (h:rLs args l=some (p,v)) (hp:p.ok):∃U,execF cx0 U Tryz.f13 64 args (memL l) fun v' _=>∀β u,Den β v' u→Den β v u:=by
 refine ⟨u9,?_⟩
 unfold rLs at h
 split at h
 ·rename_i a0 a1 a2 a3 b0 b1 b2 b3
  simp only[Option.some.injEq,Prod.mk.injEq]at h
  obtain ⟨rfl,rfl⟩:=h
  obtain ⟨⟨ha0,ha1,ha2,ha3⟩,hb0,hb1,hb2,hb3⟩:(Wd a0∧Wd a1∧Wd a2∧Wd a3)∧Wd b0∧Wd b1∧Wd b2∧Wd b3:=hp
  unfold Wd at *
  have:=vc_less a0 a1 a2 a3 b0 b1 b2 b3 fun v' _=>∀β u,Den β v' u→Den β (.bool (.sym (decide (V4 a0 a1 a2 a3<V4 b0 b1 b2 b3)))) u
  unfold ag4 at this
  rw[this]
  simp only[bne_iff_ne,ne_eq,bne_eq_false_iff_eq]
  repeat' first
   | exact den_f (by unfold V4;omega)
   | exact den_s (by unfold V4;omega)
   | apply And.intro
   | intro _
 ·cases h
def cLs:Rd Tryz.prog:=mkQ mixed 13 Tryz.func13 (by decide) (by kernel_rfl) [] [.num,.num] rLs ls_ok
theorem vc_pp (K:SV→Mem→Prop):execF cx0 u9 Tryz.f14 64 [] (memL []) K=K (.agg [.int .u64 (.lit 4332616871279656263),.int .u64 (.lit 10917124144477883021),.int .u64 (.lit 13281191951274694749),.int .u64 (.lit
 3486998266802970665)]) (memL [(513,⟨false,.cells [.int .u64 (.lit 4332616871279656263),.int .u64 (.lit 10917124144477883021),.int .u64 (.lit 13281191951274694749),.int .u64 (.lit 3486998266802970665)]⟩)]):=by kernel_rfl
def rPP:R0:=fun args l=>
 match args,l with
 | [],[]=>some (none,.agg [.int .u64 (.lit 4332616871279656263),.int .u64 (.lit 10917124144477883021),.int .u64 (.lit 13281191951274694749),.int .u64 (.lit 3486998266802970665)])
 | _,_=>none
theorem pp_ok (args:List SV) (l:List (Nat×Reg)) (p:Ob) (v:SV) (h:rPP args l=some (p,v)) (_:p.ok):∃U,execF cx0 U Tryz.f14 64 args (memL l) fun v' _=>v'=v:=by
 refine ⟨u9,?_⟩
 unfold rPP at h
 split at h
 ·simp only[Option.some.injEq,Prod.mk.injEq]at h
  obtain ⟨rfl,rfl⟩:=h
  rw[vc_pp]
 ·cases h
def cPP:Rd Tryz.prog:=mkR mixed 14 Tryz.func14 (by decide) (by kernel_rfl) [] [] rPP pp_ok
theorem vc_wsum (a0 a1 a2 a3 b0 b1 b2 b3:Int) (K:SV→Mem→Prop):(execF cx0 (fun n=>if n=0 then .inv (liSum [a0,a1,a2,a3] [b0,b1,b2,b3])else .un 0) Tryz.f136 64 [ag4 a0 a1 a2 a3,ag4 b0 b1 b2 b3] (memL []) K)=((∃f:WI,(WI.i
 f≤4∧List.length (WI.o f)=4∧(∀r:Int,List.Mem r (WI.o f)→Wd r)∧0≤WI.c f∧WI.c f≤1∧pv (WI.o f) (WI.i f)+WI.c f*(18446744073709551616:Int) ^ WI.i f=pv [a0,a1,a2,a3] (WI.i f)+pv [b0,b1,b2,b3] (WI.i f))∧
 (0=WI.c f∧0=((WI.i f:Nat):Int))∧[a0,a1,a2,a3]= [a0,a1,a2,a3]∧[b0,b1,b2,b3]= [b0,b1,b2,b3]∧[(0:Int),(0:Int),(0:Int),(0:Int)]=WI.o f)∧∀a:WI,WI.i a≤4∧List.length (WI.o a)=4∧(∀s:Int,
 List.Mem s (WI.o a)→Wd s)∧0≤WI.c a∧WI.c a≤1∧pv (WI.o a) (WI.i a)+WI.c a*(18446744073709551616:Int) ^ WI.i a=pv [a0,a1,a2,a3] (WI.i a)+pv [b0,b1,b2,b3] (WI.i a)→(decide (((WI.i a:Nat):Int)<4)=true→(0
 ≤((WI.i a:Nat):Int)∧((WI.i a:Nat):Int)<4)∧(Int.toNat ((WI.i a:Nat):Int)*1+1≤List.length [a0,a1,a2,a3]∧∀t:Int,t=List.getD [a0,a1,a2,a3] (Int.toNat ((WI.i a:Nat):Int)*1) (0:Int)→(0≤((WI.i a
 :Nat):Int)∧((WI.i a:Nat):Int)<4)∧(Int.toNat ((WI.i a:Nat):Int)*1+1≤List.length [b0,b1,b2,b3]∧∀u:Int,u=List.getD [b0,b1,b2,b3] (Int.toNat ((WI.i a:Nat):Int)*1) (0:Int)→∀g,g=IntKind.wrap
 IntKind.u64 (t+u)→(0≤((WI.i a:Nat):Int)∧((WI.i a:Nat):Int)<4)∧(Int.toNat ((WI.i a:Nat):Int)*1+1≤List.length [a0,a1,a2,a3]∧∀j:Int,j=List.getD [a0,a1,a2,a3] (Int.toNat ((WI.i a:Nat):Int)*1)
 (0:Int)→(decide (g<j)=true→∀h,h=IntKind.wrap IntKind.u64 (g+WI.c a)→(0≤((WI.i a:Nat):Int)∧((WI.i a:Nat):Int)<4)∧Int.toNat ((WI.i a:Nat):Int)*1<List.length (WI.o a)∧(0≤((WI.i a:Nat):Int)∧
 ((WI.i a:Nat):Int)<4)∧(Int.toNat ((WI.i a:Nat):Int)*1+1≤List.length (List.set (WI.o a) (Int.toNat ((WI.i a:Nat):Int)*1) h)∧∀k:Int,k=List.getD (List.set (WI.o a) (Int.toNat ((WI.i a:Nat):Int)*1) h)
 (Int.toNat ((WI.i a:Nat):Int)*1) (0:Int)→(decide (k<g)=true→∀v,v=IntKind.wrap IntKind.i64 (((WI.i a:Nat):Int)+1)→∃b:WI,(WI.i b≤4∧List.length (WI.o b)=4∧(∀w:Int,List.Mem w (WI.o b)→Wd w)∧0≤
 WI.c b∧WI.c b≤1∧pv (WI.o b) (WI.i b)+WI.c b*(18446744073709551616:Int) ^ WI.i b=pv [a0,a1,a2,a3] (WI.i b)+pv [b0,b1,b2,b3] (WI.i b))∧((1=WI.c b∧v=((WI.i b:Nat):Int))∧[a0,a1,a2,a3]= [a0,a1,a2,a3]∧
 [b0,b1,b2,b3]= [b0,b1,b2,b3]∧List.set (WI.o a) (Int.toNat ((WI.i a:Nat):Int)*1) h=WI.o b)∧4-WI.i b<4-WI.i a)∧(decide (k<g)=false→∀x,x=IntKind.wrap IntKind.i64 (((WI.i a:Nat):Int)+1)→∃c:WI,
 (WI.i c≤4∧List.length (WI.o c)=4∧(∀y:Int,List.Mem y (WI.o c)→Wd y)∧0≤WI.c c∧WI.c c≤1∧pv (WI.o c) (WI.i c)+WI.c c*(18446744073709551616:Int) ^ WI.i c=pv [a0,a1,a2,a3] (WI.i c)+pv [b0,b1,b2,b3] (WI.i
 c))∧((1=WI.c c∧x=((WI.i c:Nat):Int))∧[a0,a1,a2,a3]= [a0,a1,a2,a3]∧[b0,b1,b2,b3]= [b0,b1,b2,b3]∧List.set (WI.o a) (Int.toNat ((WI.i a:Nat):Int)*1) h=WI.o c)∧4-WI.i c<4-WI.i a)))∧(decide (g <
 j)=false→∀i,i=IntKind.wrap IntKind.u64 (g+WI.c a)→(0≤((WI.i a:Nat):Int)∧((WI.i a:Nat):Int)<4)∧Int.toNat ((WI.i a:Nat):Int)*1<List.length (WI.o a)∧(0≤((WI.i a:Nat):Int)∧((WI.i a:Nat):Int) <
 4)∧(Int.toNat ((WI.i a:Nat):Int)*1+1≤List.length (List.set (WI.o a) (Int.toNat ((WI.i a:Nat):Int)*1) i)∧∀l:Int,l=List.getD (List.set (WI.o a) (Int.toNat ((WI.i a:Nat):Int)*1) i) (Int.toNat ((WI.i a:Nat):
 Int)*1) (0:Int)→(decide (l<g)=true→∀z,z=IntKind.wrap IntKind.i64 (((WI.i a:Nat):Int)+1)→∃d:WI,(WI.i d≤4∧List.length (WI.o d)=4∧(∀A:Int,List.Mem A (WI.o d)→Wd A)∧0≤WI.c d∧WI.c d≤1∧pv (WI.o
 d) (WI.i d)+WI.c d*(18446744073709551616:Int) ^ WI.i d=pv [a0,a1,a2,a3] (WI.i d)+pv [b0,b1,b2,b3] (WI.i d))∧((1=WI.c d∧z=((WI.i d:Nat):Int))∧[a0,a1,a2,a3]= [a0,a1,a2,a3]∧[b0,b1,b2,b3]= [b0,b1,
 b2,b3]∧List.set (WI.o a) (Int.toNat ((WI.i a:Nat):Int)*1) i=WI.o d)∧4-WI.i d<4-WI.i a)∧(decide (l<g)=false→∀B,B=IntKind.wrap IntKind.i64 (((WI.i a:Nat):Int)+1)→∃e:WI,(WI.i e≤4∧List.length
 (WI.o e)=4∧(∀C:Int,List.Mem C (WI.o e)→Wd C)∧0≤WI.c e∧WI.c e≤1∧pv (WI.o e) (WI.i e)+WI.c e*(18446744073709551616:Int) ^ WI.i e=pv [a0,a1,a2,a3] (WI.i e)+pv [b0,b1,b2,b3] (WI.i e))∧((0=WI.c e∧B=
 ((WI.i e:Nat):Int))∧[a0,a1,a2,a3]= [a0,a1,a2,a3]∧[b0,b1,b2,b3]= [b0,b1,b2,b3]∧List.set (WI.o a) (Int.toNat ((WI.i a:Nat):Int)*1) i=WI.o e)∧4-WI.i e<4-WI.i a)))))))∧(decide (((WI.i a:Nat):Int) <
 4)=false→(4≤List.length (WI.o a)∧∀m:Int,m=List.getD (WI.o a) 0 (0:Int)→∀o:Int,o=List.getD (WI.o a) 1 (0:Int)→∀p:Int,p=List.getD (WI.o a) 2 (0:Int)→∀q:Int,q=List.getD (WI.o a) 3 (0:Int)→K
 (.tup [.agg [.int .u64 (.sym m),.int .u64 (.sym o),.int .u64 (.sym p),.int .u64 (.sym q)],.bool (.sym (WI.c a==1))]) (memL [(513,⟨false,.ints .u64 [a0,a1,a2,a3]⟩),(521,⟨false,.ints .u64 [b0,b1,b2,b3]⟩),(529,⟨false,
 .cells [.int .u64 (.sym m),.int .u64 (.sym o),.int .u64 (.sym p),.int .u64 (.sym q)]⟩),(553,⟨false,.ints .u64 (WI.o a)⟩)])))):=by kernel_rfl
theorem pv_set (o:List Int) (i:Nat) (y:Int):∀j,j≤i→pv (o.set i y) j=pv o j
 | 0,_=>rfl
 | j+1,h=>by
  unfold pv
  rw[pv_set o i y j (by omega),List.getD_eq_getElem?_getD,List.getD_eq_getElem?_getD,List.getElem?_set_ne (by omega)]
theorem pv_set1 {o:List Int} {i:Nat} (y:Int) (h:i<o.length):pv (o.set i y) (i+1)=pv o i+y*18446744073709551616 ^ i:=by
 show pv (o.set i y) i+(o.set i y).getD i 0*18446744073709551616 ^ i=_
 rw[pv_set o i y i (Nat.le_refl _),List.getD_eq_getElem?_getD,List.getElem?_set_self h]
 rfl
theorem pow_fact {P pO pA pB y c c' ai bi:Int} (e:pO+c*P=pA+pB) (h:y+c'*18446744073709551616=ai+bi+c):
  pO+y*P+c'*(P*18446744073709551616)=pA+ai*P+(pB+bi*P):=by
 have h2:(y+c'*18446744073709551616)*P=(ai+bi+c)*P:=by rw[h]
 rw[Int.add_mul,Int.add_mul,Int.add_mul]at h2
 have h3:c'*(P*18446744073709551616)=c'*18446744073709551616*P:=by rw[Int.mul_comm P,Int.mul_assoc]
 rw[h3]
 omega
theorem wd_set {o:List Int} {i:Nat} {y:Int} (h:∀x∈o,Wd x) (hy:Wd y):∀x∈o.set i y,Wd x:=by
 intro x hx
 rcases List.mem_or_eq_of_mem_set hx with h1 | h1
 ·exact h x h1
 ·rw[h1];exact hy
theorem wd_get {a:List Int} (h:∀x∈a,Wd x) {i:Nat}:Wd (a.getD i 0):=by
 rw[List.getD_eq_getElem?_getD]
 cases e:a[i]? with
 | none=>exact wd0
 | some x=>exact h x (List.mem_of_getElem? e)
theorem sum_step {a b o:List Int} {c c':Int} {i:Nat} {y:Int} (hi:i<o.length) (e:pv o i+c*18446744073709551616 ^ i=pv a i+pv b i) (h:y+c'*18446744073709551616=a.getD i 0+b.getD i 0+c):
  pv (o.set i y) (i+1)+c'*18446744073709551616 ^ (i+1)=pv a (i+1)+pv b (i+1):=by
 rw[pv_set1 y hi,Int.pow_succ]
 exact pow_fact e h
theorem pv4 (a b c d:Int):pv [a,b,c,d] 4=V4 a b c d:=by
 unfold V4
 simp only[pv,List.getD_cons_zero,List.getD_cons_succ]
 omega
theorem wsum_walk (a0 a1 a2 a3 b0 b1 b2 b3:Int) (K:SV→Mem→Prop) (ha:∀x∈[a0,a1,a2,a3],Wd x) (hb:∀x∈[b0,b1,b2,b3],Wd x)
  (hK:∀o0 o1 o2 o3 c m,Wd o0→Wd o1→Wd o2→Wd o3→0≤c→c≤1→V4 o0 o1 o2 o3+c*115792089237316195423570985008687907853269984665640564039457584007913129639936=V4 a0 a1 a2 a3+V4 b0 b1 b2 b3→
   K (.tup [ag4 o0 o1 o2 o3,.bool (.sym (c==1))]) m):
  execF cx0 (fun n=>if n=0 then .inv (liSum [a0,a1,a2,a3] [b0,b1,b2,b3])else .un 0) Tryz.f136 64 [ag4 a0 a1 a2 a3,ag4 b0 b1 b2 b3] (memL []) K:=by
 rw[vc_wsum]
 generalize hA: [a0,a1,a2,a3]=A at ha ⊢
 generalize hB: [b0,b1,b2,b3]=B at hb ⊢
 have lA:A.length=4:=by rw[←hA];rfl
 have lB:B.length=4:=by rw[←hB];rfl
 refine ⟨⟨⟨0,0,[0,0,0,0]⟩,⟨Nat.zero_le _,rfl,?_,Int.le_refl _,by decide,rfl⟩,⟨rfl,rfl⟩,rfl,rfl,rfl⟩,?_⟩
 ·intro x hx
  have hx:x∈[0,0,0,0]:=hx
  simp only[List.mem_cons,List.not_mem_nil,or_false,or_self]at hx
  rw[hx]
  exact wd0
 rintro ⟨i,c,o⟩ ⟨hi,ho,hw,hc0,hc1,e⟩
 dsimp only at hi ho hw hc0 hc1 e ⊢
 have hw:∀x∈o,Wd x:=hw
 refine ⟨fun h=> ?_,fun h=> ?_⟩
 ·simp only[decide_eq_true_eq]at h
  simp only[Int.toNat_natCast,Nat.mul_one]
  have hai:=wd_get ha (i:=i)
  have hbi:=wd_get hb (i:=i)
  have ho':i<o.length:=by omega
  refine ⟨⟨by omega,by omega⟩,by omega,?_⟩
  rintro x4 h4
  refine ⟨⟨by omega,by omega⟩,by omega,?_⟩
  rintro x5 h5 x6 h6
  rw[wu64]at h6
  refine ⟨⟨by omega,by omega⟩,by omega,?_⟩
  rintro x7 h7
  rw[←h4]at hai h7
  rw[←h5]at hbi
  rw[h7]
  unfold Wd at hai hbi
  have fin:∀y c':Int,Wd y→0≤c'→c'≤1→y+c'*18446744073709551616=x4+x5+c→∀x10,x10=IntKind.i64.wrap ((i:Int)+1)→
    ∃w:WI,((w.i≤4∧w.o.length=4∧(∀x,List.Mem x w.o→Wd x)∧0≤w.c∧w.c≤1∧pv w.o w.i+w.c*18446744073709551616 ^ w.i=pv A w.i+pv B w.i)∧(((c'=w.c∧x10=((w.i:Nat):Int))∧True∧True∧o.set i y=w.o)∧4-w.i<4-i)):=by
   intro y c' hy h0 h1 hs x10 h10
   rw[wrap64 (by omega) (by omega)]at h10
   refine ⟨⟨i+1,c',o.set i y⟩,⟨by simp only;omega,by simp only[List.length_set];exact ho,wd_set hw hy,h0,h1,sum_step ho' e (by rw[hs,h4,h5])⟩,⟨⟨rfl,h10.trans (by simp only;omega)⟩,trivial,trivial,rfl⟩,by simp only;omega⟩
  refine ⟨fun hlt=> ?_,fun hlt=> ?_⟩
  all_goals
   simp only[decide_eq_true_eq,decide_eq_false_iff_not]at hlt
   rintro x8 h8
   rw[wu64]at h8
   have hy:Wd x8:=by unfold Wd;omega
   refine ⟨⟨by omega,by omega⟩,by omega,⟨by omega,by omega⟩,by simp only[List.length_set];omega,?_⟩
   rintro x9 h9
   rw[List.getD_eq_getElem?_getD,List.getElem?_set_self ho',Option.getD_some]at h9
   rw[h9]
   refine ⟨fun hl2=> ?_,fun hl2=> ?_⟩
   all_goals
    simp only[decide_eq_true_eq,decide_eq_false_iff_not]at hl2
    refine fin x8 _ hy ?_ ?_ ?_
    all_goals omega
 ·simp only[decide_eq_false_iff_not]at h
  have h4:i=4:=by omega
  refine ⟨by omega,?_⟩
  rintro _ rfl _ rfl _ rfl _ rfl
  rw[h4,←hA,←hB,pv4,pv4]at e
  match o,ho,hw,e with
  | [o0,o1,o2,o3],_,hw,e=>
   rw[pv4]at e
   exact hK o0 o1 o2 o3 c _ (hw _ (by simp)) (hw _ (by simp)) (hw _ (by simp)) (hw _ (by simp)) hc0 hc1 (e.trans rfl)
theorem wds {a b c d:Int} (h:Wd a∧Wd b∧Wd c∧Wd d):∀x∈[a,b,c,d],Wd x:=by
 obtain ⟨h0,h1,h2,h3⟩:=h
 intro x hx
 simp only[List.mem_cons,List.not_mem_nil,or_false]at hx
 rcases hx with rfl | rfl | rfl | rfl<;>assumption
def w256 (x:Int):Nat:=(x%115792089237316195423570985008687907853269984665640564039457584007913129639936).toNat
theorem w256_of {o0 o1 o2 o3 c s:Int} (h0:Wd o0) (h1:Wd o1) (h2:Wd o2) (h3:Wd o3) (e:V4 o0 o1 o2 o3+c*115792089237316195423570985008687907853269984665640564039457584007913129639936=s):
  o0=lm (w256 s) 0∧o1=lm (w256 s) 1∧o2=lm (w256 s) 2∧o3=lm (w256 s) 3:=by
 refine lm_of h0 h1 h2 h3 ?_
 have n0:=V4_nonneg h0 h1 h2 h3
 have n1:=V4_lt h0 h1 h2 h3
 unfold w256
 omega
def rWs:R0:=fun args l=>
 match args,l with
 | [.agg [.int .u64 (.sym a0),.int .u64 (.sym a1),.int .u64 (.sym a2),.int .u64 (.sym a3)],.agg [.int .u64 (.sym b0),.int .u64 (.sym b1),.int .u64 (.sym b2),.int .u64 (.sym b3)]],[]=>
  some (some ((Wd a0∧Wd a1∧Wd a2∧Wd a3)∧Wd b0∧Wd b1∧Wd b2∧Wd b3),
   .tup [ag4 (lm (w256 (V4 a0 a1 a2 a3+V4 b0 b1 b2 b3)) 0) (lm (w256 (V4 a0 a1 a2 a3+V4 b0 b1 b2 b3)) 1) (lm (w256 (V4 a0 a1 a2 a3+V4 b0 b1 b2 b3)) 2) (lm (w256 (V4 a0 a1 a2 a3+V4 b0 b1 b2 b3)) 3),
    .bool (.sym (decide (115792089237316195423570985008687907853269984665640564039457584007913129639936≤V4 a0 a1 a2 a3+V4 b0 b1 b2 b3)))])
 | _,_=>none
theorem ws_ok (args:List SV) (l:List (Nat×Reg)) (p:Ob) (v:SV) (h:rWs args l=some (p,v)) (hp:p.ok):∃U,execF cx0 U Tryz.f136 64 args (memL l) fun v' _=>v'=v:=by
 unfold rWs at h
 split at h
 ·rename_i a0 a1 a2 a3 b0 b1 b2 b3
  simp only[Option.some.injEq,Prod.mk.injEq]at h
  obtain ⟨rfl,rfl⟩:=h
  obtain ⟨ha,hb⟩:(Wd a0∧Wd a1∧Wd a2∧Wd a3)∧Wd b0∧Wd b1∧Wd b2∧Wd b3:=hp
  refine ⟨_,wsum_walk a0 a1 a2 a3 b0 b1 b2 b3 _ (wds ha) (wds hb) fun o0 o1 o2 o3 c m h0 h1 h2 h3 hc0 hc1 e=> ?_⟩
  obtain ⟨e0,e1,e2,e3⟩:=w256_of h0 h1 h2 h3 e
  have n0:=V4_nonneg h0 h1 h2 h3
  have n1:=V4_lt h0 h1 h2 h3
  have hc:(c==1)=decide (115792089237316195423570985008687907853269984665640564039457584007913129639936≤V4 a0 a1 a2 a3+V4 b0 b1 b2 b3):=by
   rw[←e]
   by_cases h:c=1
   ·rw[h]
    simp only[beq_self_eq_true]
    exact (decide_eq_true (by omega)).symm
   ·have hc:c=0:=by omega
    rw[hc]
    exact (decide_eq_false (by omega)).symm
  rw[hc,←e0,←e1,←e2,←e3]
 ·cases h
def cWs:Rd Tryz.prog:=mkR mixed 136 Tryz.func136 (by decide) (by kernel_rfl) [] [.num,.num] rWs ws_ok
theorem vc_wdif (a0 a1 a2 a3 b0 b1 b2 b3:Int) (K:SV→Mem→Prop):(execF cx0 (fun n=>if n=0 then .inv (liDif [a0,a1,a2,a3] [b0,b1,b2,b3])else .un 0) Tryz.f137 64 [ag4 a0 a1 a2 a3,ag4 b0 b1 b2 b3] (memL []) K)=((∃f:WI,(WI.i
 f≤4∧List.length (WI.o f)=4∧(∀q:Int,List.Mem q (WI.o f)→Wd q)∧0≤WI.c f∧WI.c f≤1∧pv (WI.o f) (WI.i f)=pv [a0,a1,a2,a3] (WI.i f)-pv [b0,b1,b2,b3] (WI.i f)+WI.c f*(18446744073709551616:Int) ^ WI.i f)∧
 (0=WI.c f∧0=((WI.i f:Nat):Int))∧[a0,a1,a2,a3]= [a0,a1,a2,a3]∧[b0,b1,b2,b3]= [b0,b1,b2,b3]∧[(0:Int),(0:Int),(0:Int),(0:Int)]=WI.o f)∧∀a:WI,WI.i a≤4∧List.length (WI.o a)=4∧(∀r:Int,
 List.Mem r (WI.o a)→Wd r)∧0≤WI.c a∧WI.c a≤1∧pv (WI.o a) (WI.i a)=pv [a0,a1,a2,a3] (WI.i a)-pv [b0,b1,b2,b3] (WI.i a)+WI.c a*(18446744073709551616:Int) ^ WI.i a→(decide (((WI.i a:Nat):Int)<4)=true→(0
 ≤((WI.i a:Nat):Int)∧((WI.i a:Nat):Int)<4)∧(Int.toNat ((WI.i a:Nat):Int)*1+1≤List.length [a0,a1,a2,a3]∧∀s:Int,s=List.getD [a0,a1,a2,a3] (Int.toNat ((WI.i a:Nat):Int)*1) (0:Int)→(0≤((WI.i a
 :Nat):Int)∧((WI.i a:Nat):Int)<4)∧(Int.toNat ((WI.i a:Nat):Int)*1+1≤List.length [b0,b1,b2,b3]∧∀t:Int,t=List.getD [b0,b1,b2,b3] (Int.toNat ((WI.i a:Nat):Int)*1) (0:Int)→∀g,g=IntKind.wrap
 IntKind.u64 (s-t)→(0≤((WI.i a:Nat):Int)∧((WI.i a:Nat):Int)<4)∧(Int.toNat ((WI.i a:Nat):Int)*1+1≤List.length [a0,a1,a2,a3]∧∀h:Int,h=List.getD [a0,a1,a2,a3] (Int.toNat ((WI.i a:Nat):Int)*1)
 (0:Int)→(0≤((WI.i a:Nat):Int)∧((WI.i a:Nat):Int)<4)∧(Int.toNat ((WI.i a:Nat):Int)*1+1≤List.length [b0,b1,b2,b3]∧∀i:Int,i=List.getD [b0,b1,b2,b3] (Int.toNat ((WI.i a:Nat):Int)*1) (0:Int)→
 (decide (h<i)=true→∀j,j=IntKind.wrap IntKind.u64 (g-WI.c a)→(0≤((WI.i a:Nat):Int)∧((WI.i a:Nat):Int)<4)∧Int.toNat ((WI.i a:Nat):Int)*1<List.length (WI.o a)∧(decide (g<WI.c a)=true→∀u,u=
 IntKind.wrap IntKind.i64 (((WI.i a:Nat):Int)+1)→∃b:WI,(WI.i b≤4∧List.length (WI.o b)=4∧(∀v:Int,List.Mem v (WI.o b)→Wd v)∧0≤WI.c b∧WI.c b≤1∧pv (WI.o b) (WI.i b)=pv [a0,a1,a2,a3] (WI.i b)-pv [b0,
 b1,b2,b3] (WI.i b)+WI.c b*(18446744073709551616:Int) ^ WI.i b)∧((1=WI.c b∧u=((WI.i b:Nat):Int))∧[a0,a1,a2,a3]= [a0,a1,a2,a3]∧[b0,b1,b2,b3]= [b0,b1,b2,b3]∧List.set (WI.o a) (Int.toNat ((WI.i a:Nat)
 :Int)*1) j=WI.o b)∧4-WI.i b<4-WI.i a)∧(decide (g<WI.c a)=false→∀w,w=IntKind.wrap IntKind.i64 (((WI.i a:Nat):Int)+1)→∃c:WI,(WI.i c≤4∧List.length (WI.o c)=4∧(∀x:Int,List.Mem x (WI.o c)→Wd x)
 ∧0≤WI.c c∧WI.c c≤1∧pv (WI.o c) (WI.i c)=pv [a0,a1,a2,a3] (WI.i c)-pv [b0,b1,b2,b3] (WI.i c)+WI.c c*(18446744073709551616:Int) ^ WI.i c)∧((1=WI.c c∧w=((WI.i c:Nat):Int))∧[a0,a1,a2,a3]= [a0,a1,a2,
 a3]∧[b0,b1,b2,b3]= [b0,b1,b2,b3]∧List.set (WI.o a) (Int.toNat ((WI.i a:Nat):Int)*1) j=WI.o c)∧4-WI.i c<4-WI.i a))∧(decide (h<i)=false→∀k,k=IntKind.wrap IntKind.u64 (g-WI.c a)→(0≤((WI.i a:Nat)
 :Int)∧((WI.i a:Nat):Int)<4)∧Int.toNat ((WI.i a:Nat):Int)*1<List.length (WI.o a)∧(decide (g<WI.c a)=true→∀y,y=IntKind.wrap IntKind.i64 (((WI.i a:Nat):Int)+1)→∃d:WI,(WI.i d≤4∧List.length (WI.o
 d)=4∧(∀z:Int,List.Mem z (WI.o d)→Wd z)∧0≤WI.c d∧WI.c d≤1∧pv (WI.o d) (WI.i d)=pv [a0,a1,a2,a3] (WI.i d)-pv [b0,b1,b2,b3] (WI.i d)+WI.c d*(18446744073709551616:Int) ^ WI.i d)∧((1=WI.c d∧y=((WI.i d
 :Nat):Int))∧[a0,a1,a2,a3]= [a0,a1,a2,a3]∧[b0,b1,b2,b3]= [b0,b1,b2,b3]∧List.set (WI.o a) (Int.toNat ((WI.i a:Nat):Int)*1) k=WI.o d)∧4-WI.i d<4-WI.i a)∧(decide (g<WI.c a)=false→∀A,A=
 IntKind.wrap IntKind.i64 (((WI.i a:Nat):Int)+1)→∃e:WI,(WI.i e≤4∧List.length (WI.o e)=4∧(∀B:Int,List.Mem B (WI.o e)→Wd B)∧0≤WI.c e∧WI.c e≤1∧pv (WI.o e) (WI.i e)=pv [a0,a1,a2,a3] (WI.i e)-pv [b0,
 b1,b2,b3] (WI.i e)+WI.c e*(18446744073709551616:Int) ^ WI.i e)∧((0=WI.c e∧A=((WI.i e:Nat):Int))∧[a0,a1,a2,a3]= [a0,a1,a2,a3]∧[b0,b1,b2,b3]= [b0,b1,b2,b3]∧List.set (WI.o a) (Int.toNat ((WI.i a:Nat)
 :Int)*1) k=WI.o e)∧4-WI.i e<4-WI.i a)))))))∧(decide (((WI.i a:Nat):Int)<4)=false→(4≤List.length (WI.o a)∧∀l:Int,l=List.getD (WI.o a) 0 (0:Int)→∀m:Int,m=List.getD (WI.o a) 1 (0:Int)→∀o:
 Int,o=List.getD (WI.o a) 2 (0:Int)→∀p:Int,p=List.getD (WI.o a) 3 (0:Int)→K (.agg [.int .u64 (.sym l),.int .u64 (.sym m),.int .u64 (.sym o),.int .u64 (.sym p)]) (memL [(513,⟨false,.ints .u64 [a0,a1,a2,a3]⟩),(521,
 ⟨false,.ints .u64 [b0,b1,b2,b3]⟩),(529,⟨false,.cells [.int .u64 (.sym l),.int .u64 (.sym m),.int .u64 (.sym o),.int .u64 (.sym p)]⟩),(545,⟨false,.ints .u64 (WI.o a)⟩)])))):=by kernel_rfl
theorem pow_fact2 {P pO pA pB y c c' ai bi:Int} (e:pO=pA-pB+c*P) (h:y=ai-bi-c+c'*18446744073709551616):
  pO+y*P=pA+ai*P-(pB+bi*P)+c'*(P*18446744073709551616):=by
 have h2:y*P=(ai-bi-c+c'*18446744073709551616)*P:=by rw[h]
 rw[Int.add_mul,Int.sub_mul,Int.sub_mul]at h2
 have h3:c'*(P*18446744073709551616)=c'*18446744073709551616*P:=by rw[Int.mul_comm P,Int.mul_assoc]
 rw[h3]
 omega
theorem dif_step {a b o:List Int} {c c':Int} {i:Nat} {y:Int} (hi:i<o.length) (e:pv o i=pv a i-pv b i+c*18446744073709551616 ^ i) (h:y=a.getD i 0-b.getD i 0-c+c'*18446744073709551616):
  pv (o.set i y) (i+1)=pv a (i+1)-pv b (i+1)+c'*18446744073709551616 ^ (i+1):=by
 rw[pv_set1 y hi,Int.pow_succ]
 exact pow_fact2 e h
theorem wdif_walk (a0 a1 a2 a3 b0 b1 b2 b3:Int) (K:SV→Mem→Prop) (ha:∀x∈[a0,a1,a2,a3],Wd x) (hb:∀x∈[b0,b1,b2,b3],Wd x)
  (hK:∀o0 o1 o2 o3 c m,Wd o0→Wd o1→Wd o2→Wd o3→V4 o0 o1 o2 o3=V4 a0 a1 a2 a3-V4 b0 b1 b2 b3+c*115792089237316195423570985008687907853269984665640564039457584007913129639936→
   K (ag4 o0 o1 o2 o3) m):
  execF cx0 (fun n=>if n=0 then .inv (liDif [a0,a1,a2,a3] [b0,b1,b2,b3])else .un 0) Tryz.f137 64 [ag4 a0 a1 a2 a3,ag4 b0 b1 b2 b3] (memL []) K:=by
 rw[vc_wdif]
 generalize hA: [a0,a1,a2,a3]=A at ha ⊢
 generalize hB: [b0,b1,b2,b3]=B at hb ⊢
 have lA:A.length=4:=by rw[←hA];rfl
 have lB:B.length=4:=by rw[←hB];rfl
 refine ⟨⟨⟨0,0,[0,0,0,0]⟩,⟨Nat.zero_le _,rfl,?_,Int.le_refl _,by decide,rfl⟩,⟨rfl,rfl⟩,rfl,rfl,rfl⟩,?_⟩
 ·intro x hx
  have hx:x∈[0,0,0,0]:=hx
  simp only[List.mem_cons,List.not_mem_nil,or_false,or_self]at hx
  rw[hx]
  exact wd0
 rintro ⟨i,c,o⟩ ⟨hi,ho,hw,hc0,hc1,e⟩
 dsimp only at hi ho hw hc0 hc1 e ⊢
 have hw:∀x∈o,Wd x:=hw
 refine ⟨fun h=> ?_,fun h=> ?_⟩
 ·simp only[decide_eq_true_eq]at h
  simp only[Int.toNat_natCast,Nat.mul_one]
  have hai:=wd_get ha (i:=i)
  have hbi:=wd_get hb (i:=i)
  have ho':i<o.length:=by omega
  refine ⟨⟨by omega,by omega⟩,by omega,?_⟩
  rintro x4 h4
  refine ⟨⟨by omega,by omega⟩,by omega,?_⟩
  rintro x5 h5 x6 h6
  rw[wu64]at h6
  refine ⟨⟨by omega,by omega⟩,by omega,?_⟩
  rintro x7 h7
  refine ⟨⟨by omega,by omega⟩,by omega,?_⟩
  rintro x8 h8
  rw[←h4]at hai h7
  rw[←h5]at hbi h8
  rw[h7,h8]
  unfold Wd at hai hbi
  have fin:∀y c':Int,Wd y→0≤c'→c'≤1→y=x4-x5-c+c'*18446744073709551616→∀x10,x10=IntKind.i64.wrap ((i:Int)+1)→
    ∃w:WI,((w.i≤4∧w.o.length=4∧(∀x,List.Mem x w.o→Wd x)∧0≤w.c∧w.c≤1∧pv w.o w.i=pv A w.i-pv B w.i+w.c*18446744073709551616 ^ w.i)∧(((c'=w.c∧x10=((w.i:Nat):Int))∧True∧True∧o.set i y=w.o)∧4-w.i<4-i)):=by
   intro y c' hy h0 h1 hs x10 h10
   rw[wrap64 (by omega) (by omega)]at h10
   refine ⟨⟨i+1,c',o.set i y⟩,⟨by simp only;omega,by simp only[List.length_set];exact ho,wd_set hw hy,h0,h1,dif_step ho' e (by rw[hs,h4,h5])⟩,⟨⟨rfl,h10.trans (by simp only;omega)⟩,trivial,trivial,rfl⟩,by simp only;omega⟩
  refine ⟨fun hlt=> ?_,fun hlt=> ?_⟩
  all_goals
   simp only[decide_eq_true_eq,decide_eq_false_iff_not]at hlt
   rintro x9 h9
   rw[wu64]at h9
   have hy:Wd x9:=by unfold Wd;omega
   refine ⟨⟨by omega,by omega⟩,by omega,?_⟩
   refine ⟨fun hl2=> ?_,fun hl2=> ?_⟩
   all_goals
    simp only[decide_eq_true_eq,decide_eq_false_iff_not]at hl2
    refine fin x9 _ hy ?_ ?_ ?_
    all_goals omega
 ·simp only[decide_eq_false_iff_not]at h
  have h4:i=4:=by omega
  refine ⟨by omega,?_⟩
  rintro _ rfl _ rfl _ rfl _ rfl
  rw[h4,←hA,←hB,pv4,pv4]at e
  match o,ho,hw,e with
  | [o0,o1,o2,o3],_,hw,e=>
   rw[pv4]at e
   exact hK o0 o1 o2 o3 c _ (hw _ (by simp)) (hw _ (by simp)) (hw _ (by simp)) (hw _ (by simp)) (e.trans rfl)
def rWd:R0:=fun args l=>
 match args,l with
 | [.agg [.int .u64 (.sym a0),.int .u64 (.sym a1),.int .u64 (.sym a2),.int .u64 (.sym a3)],.agg [.int .u64 (.sym b0),.int .u64 (.sym b1),.int .u64 (.sym b2),.int .u64 (.sym b3)]],[]=>
  some (some ((Wd a0∧Wd a1∧Wd a2∧Wd a3)∧Wd b0∧Wd b1∧Wd b2∧Wd b3),
   ag4 (lm (w256 (V4 a0 a1 a2 a3-V4 b0 b1 b2 b3)) 0) (lm (w256 (V4 a0 a1 a2 a3-V4 b0 b1 b2 b3)) 1) (lm (w256 (V4 a0 a1 a2 a3-V4 b0 b1 b2 b3)) 2) (lm (w256 (V4 a0 a1 a2 a3-V4 b0 b1 b2 b3)) 3))
 | _,_=>none
theorem wd_ok (args:List SV) (l:List (Nat×Reg)) (p:Ob) (v:SV) (h:rWd args l=some (p,v)) (hp:p.ok):∃U,execF cx0 U Tryz.f137 64 args (memL l) fun v' _=>v'=v:=by
 unfold rWd at h
 split at h
 ·rename_i a0 a1 a2 a3 b0 b1 b2 b3
  simp only[Option.some.injEq,Prod.mk.injEq]at h
  obtain ⟨rfl,rfl⟩:=h
  obtain ⟨ha,hb⟩:(Wd a0∧Wd a1∧Wd a2∧Wd a3)∧Wd b0∧Wd b1∧Wd b2∧Wd b3:=hp
  refine ⟨_,wdif_walk a0 a1 a2 a3 b0 b1 b2 b3 _ (wds ha) (wds hb) fun o0 o1 o2 o3 c m h0 h1 h2 h3 e=> ?_⟩
  obtain ⟨e0,e1,e2,e3⟩:=w256_of (c:= -c) (s:=V4 a0 a1 a2 a3-V4 b0 b1 b2 b3) h0 h1 h2 h3 (by rw[e,Int.neg_mul];omega)
  rw[←e0,←e1,←e2,←e3]
 ·cases h
def cWd:Rd Tryz.prog:=mkR mixed 137 Tryz.func137 (by decide) (by kernel_rfl) [] [.num,.num] rWd wd_ok
def cxAm:Cx Tryz.prog:= { rds:= [cWs,cLs,cWd],efs:= [],eqs:= [] }
theorem vc_am (a0 a1 a2 a3 b0 b1 b2 b3 m0 m1 m2 m3:Int) (K:SV→Mem→Prop):(execF cxAm u9 Tryz.f95 64 [ag4 a0 a1 a2 a3,ag4 b0 b1 b2 b3,ag4 m0 m1 m2 m3] (memL []) K)=(∀a,a=a0→∀b,b=a1→∀c,c=a2→∀d,d=a3→∀e,e
 =b0→∀f,f=b1→∀g,g=b2→∀h,h=b3→((Wd a∧Wd b∧Wd c∧Wd d)∧Wd e∧Wd f∧Wd g∧Wd h)∧(decide (115792089237316195423570985008687907853269984665640564039457584007913129639936≤V4 a b c d+V4 e f g h)=true→∀i,i
 =lm (w256 (V4 a b c d+V4 e f g h)) 0→∀j,j=lm (w256 (V4 a b c d+V4 e f g h)) 1→∀k,k=lm (w256 (V4 a b c d+V4 e f g h)) 2→∀l,l=lm (w256 (V4 a b c d+V4 e f g h)) 3→∀m,m=m0→∀n,n=m1→∀o,o=m2→∀p,p=
 m3→(((Wd i∧Wd j∧Wd k∧Wd l)∧Wd m∧Wd n∧Wd o∧Wd p)∧∀G,G=lm (w256 (V4 i j k l-V4 m n o p)) 0→∀H,H=lm (w256 (V4 i j k l-V4 m n o p)) 1→∀I,I=lm (w256 (V4 i j k l-V4 m n o p)) 2→∀J,J=lm (w256 (V4 i j
 k l-V4 m n o p)) 3→K (.agg [.int .u64 (.sym G),.int .u64 (.sym H),.int .u64 (.sym I),.int .u64 (.sym J)]) (memL [(513,⟨false,.cells [.int .u64 (.sym a0),.int .u64 (.sym a1),.int .u64 (.sym a2),.int .u64 (.sym a3)]⟩),(521,
 ⟨false,.cells [.int .u64 (.sym b0),.int .u64 (.sym b1),.int .u64 (.sym b2),.int .u64 (.sym b3)]⟩),(529,⟨false,.cells [.int .u64 (.sym m0),.int .u64 (.sym m1),.int .u64 (.sym m2),.int .u64 (.sym m3)]⟩),(537,⟨false,.cells [.int
 .u64 (.sym G),.int .u64 (.sym H),.int .u64 (.sym I),.int .u64 (.sym J)]⟩),(593,⟨false,.cells [.int .u64 (.sym (lm (w256 (V4 a b c d+V4 e f g h)) 0)),.int .u64 (.sym (lm (w256 (V4 a b c d+V4 e f g h)) 1)),.int .u64 (.sym (lm
 (w256 (V4 a b c d+V4 e f g h)) 2)),.int .u64 (.sym (lm (w256 (V4 a b c d+V4 e f g h)) 3))]⟩)])))∧(decide (115792089237316195423570985008687907853269984665640564039457584007913129639936≤V4 a b c d+V4 e f g h)=false→∀y,y=
 lm (w256 (V4 a b c d+V4 e f g h)) 0→∀z,z=lm (w256 (V4 a b c d+V4 e f g h)) 1→∀A,A=lm (w256 (V4 a b c d+V4 e f g h)) 2→∀B,B=lm (w256 (V4 a b c d+V4 e f g h)) 3→∀C,C=m0→∀D,D=m1→∀E,E=m2→∀F,F=
 m3→((Wd y∧Wd z∧Wd A∧Wd B)∧Wd C∧Wd D∧Wd E∧Wd F)∧(Bool.not (decide (V4 y z A B<V4 C D E F))=true→∀q,q=lm (w256 (V4 a b c d+V4 e f g h)) 0→∀r,r=lm (w256 (V4 a b c d+V4 e f g h)) 1→∀s,s=lm (w256 (V4
 a b c d+V4 e f g h)) 2→∀t,t=lm (w256 (V4 a b c d+V4 e f g h)) 3→∀u,u=m0→∀v,v=m1→∀w,w=m2→∀x,x=m3→(((Wd q∧Wd r∧Wd s∧Wd t)∧Wd u∧Wd v∧Wd w∧Wd x)∧∀L,L=lm (w256 (V4 q r s t-V4 u v w x)) 0
 →∀M,M=lm (w256 (V4 q r s t-V4 u v w x)) 1→∀N,N=lm (w256 (V4 q r s t-V4 u v w x)) 2→∀O,O=lm (w256 (V4 q r s t-V4 u v w x)) 3→K (.agg [.int .u64 (.sym L),.int .u64 (.sym M),.int .u64 (.sym N),.int .u64 (.sym O)])
 (memL [(513,⟨false,.cells [.int .u64 (.sym a0),.int .u64 (.sym a1),.int .u64 (.sym a2),.int .u64 (.sym a3)]⟩),(521,⟨false,.cells [.int .u64 (.sym b0),.int .u64 (.sym b1),.int .u64 (.sym b2),.int .u64 (.sym b3)]⟩),(529,⟨false,
 .cells [.int .u64 (.sym m0),.int .u64 (.sym m1),.int .u64 (.sym m2),.int .u64 (.sym m3)]⟩),(537,⟨false,.cells [.int .u64 (.sym L),.int .u64 (.sym M),.int .u64 (.sym N),.int .u64 (.sym O)]⟩),(593,⟨false,.cells [.int .u64 (.sym
 (lm (w256 (V4 a b c d+V4 e f g h)) 0)),.int .u64 (.sym (lm (w256 (V4 a b c d+V4 e f g h)) 1)),.int .u64 (.sym (lm (w256 (V4 a b c d+V4 e f g h)) 2)),.int .u64 (.sym (lm (w256 (V4 a b c d+V4 e f g h)) 3))]⟩)])))∧(Bool.not
 (decide (V4 y z A B<V4 C D E F))=false→∀Q,Q=lm (w256 (V4 a b c d+V4 e f g h)) 0→∀R,R=lm (w256 (V4 a b c d+V4 e f g h)) 1→∀S,S=lm (w256 (V4 a b c d+V4 e f g h)) 2→∀T,T=lm (w256 (V4 a b c d+V4 e f g h)) 3
 →K (.agg [.int .u64 (.sym Q),.int .u64 (.sym R),.int .u64 (.sym S),.int .u64 (.sym T)]) (memL [(513,⟨false,.cells [.int .u64 (.sym a0),.int .u64 (.sym a1),.int .u64 (.sym a2),.int .u64 (.sym a3)]⟩),(521,⟨false,.cells [.int .u64
 (.sym b0),.int .u64 (.sym b1),.int .u64 (.sym b2),.int .u64 (.sym b3)]⟩),(529,⟨false,.cells [.int .u64 (.sym m0),.int .u64 (.sym m1),.int .u64 (.sym m2),.int .u64 (.sym m3)]⟩),(537,⟨false,.cells [.int .u64 (.sym Q),.int .u64
 (.sym R),.int .u64 (.sym S),.int .u64 (.sym T)]⟩),(593,⟨false,.cells [.int .u64 (.sym (lm (w256 (V4 a b c d+V4 e f g h)) 0)),.int .u64 (.sym (lm (w256 (V4 a b c d+V4 e f g h)) 1)),.int .u64 (.sym (lm (w256 (V4 a b c d+V4 e f g
 h)) 2)),.int .u64 (.sym (lm (w256 (V4 a b c d+V4 e f g h)) 3))]⟩)])))):=by kernel_rfl
theorem w256_lt (s:Int):w256 s<2 ^ 256:=by unfold w256;omega
theorem w256_V4 (s:Int):V4 (lm (w256 s) 0) (lm (w256 s) 1) (lm (w256 s) 2) (lm (w256 s) 3)=(w256 s:Int):=lm_val (w256_lt s)
theorem am_sub {S M:Int} (h0:M≤S) (h1:S<2*M):S%M=S-M:=by
 rw[←Int.sub_emod_right,Int.emod_eq_of_lt (by omega) (by omega)]
theorem am1 {S M:Int} (hM:M<115792089237316195423570985008687907853269984665640564039457584007913129639936) (h1:S<2*M) (h2:115792089237316195423570985008687907853269984665640564039457584007913129639936≤S):w256 ((w256 S:Int)-M)=(S%M).toNat:=by
 rw[am_sub (by omega) h1]
 unfold w256
 omega
theorem am2 {S M:Int} (h0:0≤S) (h1:S<2*M) (h2:¬115792089237316195423570985008687907853269984665640564039457584007913129639936≤S) (h3:¬(w256 S:Int)<M):w256 ((w256 S:Int)-M)=(S%M).toNat:=by
 have:(w256 S:Int)=S:=by unfold w256;omega
 rw[this]at h3 ⊢
 rw[am_sub (by omega) h1]
 unfold w256
 omega
theorem am3 {S M:Int} (h0:0≤S) (h2:¬115792089237316195423570985008687907853269984665640564039457584007913129639936≤S) (h3:(w256 S:Int)<M):w256 S=(S%M).toNat:=by
 have:(w256 S:Int)=S:=by unfold w256;omega
 rw[this]at h3
 rw[Int.emod_eq_of_lt h0 h3]
 omega
def rAm:R0:=fun args l=>
 match args,l with
 | [.agg [.int .u64 (.sym a0),.int .u64 (.sym a1),.int .u64 (.sym a2),.int .u64 (.sym a3)],.agg [.int .u64 (.sym b0),.int .u64 (.sym b1),.int .u64 (.sym b2),.int .u64 (.sym b3)],.agg [.int .u64 (.sym m0),.int .u64 (.sym m1),.int .u64 (.sym m2),.int .u64 (.sym m3)]],[]=>
  some (some (((Wd a0∧Wd a1∧Wd a2∧Wd a3)∧(Wd b0∧Wd b1∧Wd b2∧Wd b3)∧Wd m0∧Wd m1∧Wd m2∧Wd m3)∧V4 a0 a1 a2 a3<V4 m0 m1 m2 m3∧V4 b0 b1 b2 b3<V4 m0 m1 m2 m3),
   ag4 (lm ((V4 a0 a1 a2 a3+V4 b0 b1 b2 b3)%V4 m0 m1 m2 m3).toNat 0) (lm ((V4 a0 a1 a2 a3+V4 b0 b1 b2 b3)%V4 m0 m1 m2 m3).toNat 1) (lm ((V4 a0 a1 a2 a3+V4 b0 b1 b2 b3)%V4 m0 m1 m2 m3).toNat 2) (lm ((V4 a0 a1 a2 a3+V4 b0 b1 b2 b3)%V4 m0 m1 m2 m3).toNat 3))
 | _,_=>none
theorem am_ok (args:List SV) (l:List (Nat×Reg)) (p:Ob) (v:SV) (h:rAm args l=some (p,v)) (hp:p.ok):∃U,execF cxAm U Tryz.f95 64 args (memL l) fun v' _=>v'=v:=by
 unfold rAm at h
 split at h
 ·rename_i a0 a1 a2 a3 b0 b1 b2 b3 m0 m1 m2 m3
  simp only[Option.some.injEq,Prod.mk.injEq]at h
  obtain ⟨rfl,rfl⟩:=h
  obtain ⟨⟨ha,hb,hm⟩,hA,hB⟩:((Wd a0∧Wd a1∧Wd a2∧Wd a3)∧(Wd b0∧Wd b1∧Wd b2∧Wd b3)∧Wd m0∧Wd m1∧Wd m2∧Wd m3)∧V4 a0 a1 a2 a3<V4 m0 m1 m2 m3∧V4 b0 b1 b2 b3<V4 m0 m1 m2 m3:=hp
  have nA:=V4_nonneg ha.1 ha.2.1 ha.2.2.1 ha.2.2.2
  have nB:=V4_nonneg hb.1 hb.2.1 hb.2.2.1 hb.2.2.2
  have lM:=V4_lt hm.1 hm.2.1 hm.2.2.1 hm.2.2.2
  have W:∀s i,Wd (lm s i):=lm_wd
  refine ⟨u9,?_⟩
  have:=vc_am a0 a1 a2 a3 b0 b1 b2 b3 m0 m1 m2 m3 fun v' _=>v'=ag4 (lm ((V4 a0 a1 a2 a3+V4 b0 b1 b2 b3)%V4 m0 m1 m2 m3).toNat 0) (lm ((V4 a0 a1 a2 a3+V4 b0 b1 b2 b3)%V4 m0 m1 m2 m3).toNat 1) (lm ((V4 a0 a1 a2 a3+V4 b0 b1 b2 b3)%V4 m0 m1 m2 m3).toNat 2) (lm ((V4 a0 a1 a2 a3+V4 b0 b1 b2 b3)%V4 m0 m1 m2 m3).toNat 3)
  unfold ag4 at this
  refine this.mpr ?_
  clear this
  rintro _ rfl _ rfl _ rfl _ rfl _ rfl _ rfl _ rfl _ rfl
  refine ⟨⟨ha,hb⟩,fun h=> ?_,fun h=> ?_⟩
  ·simp only[decide_eq_true_eq]at h
   rintro _ rfl _ rfl _ rfl _ rfl _ rfl _ rfl _ rfl _ rfl
   refine ⟨⟨⟨W _ _,W _ _,W _ _,W _ _⟩,hm⟩,?_⟩
   rintro _ rfl _ rfl _ rfl _ rfl
   rw[w256_V4,am1 lM (by omega) h]
  ·simp only[decide_eq_false_iff_not]at h
   rintro _ rfl _ rfl _ rfl _ rfl _ rfl _ rfl _ rfl _ rfl
   refine ⟨⟨⟨W _ _,W _ _,W _ _,W _ _⟩,hm⟩,fun h2=> ?_,fun h2=> ?_⟩
   ·rw[w256_V4]at h2
    rintro _ rfl _ rfl _ rfl _ rfl _ rfl _ rfl _ rfl _ rfl
    refine ⟨⟨⟨W _ _,W _ _,W _ _,W _ _⟩,hm⟩,?_⟩
    rintro _ rfl _ rfl _ rfl _ rfl
    rw[w256_V4,am2 (by omega) (by omega) h (by simpa using h2)]
   ·rw[w256_V4]at h2
    rintro _ rfl _ rfl _ rfl _ rfl
    rw[am3 (by omega) h (by simpa using h2)]
 ·cases h
def cAm:Rd Tryz.prog:=mkR mixed 95 Tryz.func95 (by decide) (by kernel_rfl) [] [.num,.num,.num] rAm am_ok
def cxAd:Cx Tryz.prog:= { rds:= [cPP,cAm],efs:= [],eqs:= [] }
theorem vc_ad (a0 a1 a2 a3 b0 b1 b2 b3:Int) (K:SV→Mem→Prop):(execF cxAd u9 Tryz.f44 64 [ag4 a0 a1 a2 a3,ag4 b0 b1 b2 b3] (memL []) K)=(∀a,a=a0→∀b,b=a1→∀c,c=a2→∀d,d=a3→∀e,e=b0→∀f,f=b1→∀g,g=
 b2→∀h,h=b3→((((Wd a∧Wd b∧Wd c∧Wd d)∧(Wd e∧Wd f∧Wd g∧Wd h)∧Wd (4332616871279656263:Int)∧Wd (10917124144477883021:Int)∧Wd (13281191951274694749:Int)∧Wd (3486998266802970665:Int))∧V4 a b c d <
 21888242871839275222246405745257275088696311157297823662689037894645226208583∧V4 e f g h<21888242871839275222246405745257275088696311157297823662689037894645226208583)∧∀i,i=lm (Int.toNat ((V4 a b c d+V4 e f g h) %
 21888242871839275222246405745257275088696311157297823662689037894645226208583)) 0→∀j,j=lm (Int.toNat ((V4 a b c d+V4 e f g h)%21888242871839275222246405745257275088696311157297823662689037894645226208583)) 1→∀k,k=lm
 (Int.toNat ((V4 a b c d+V4 e f g h)%21888242871839275222246405745257275088696311157297823662689037894645226208583)) 2→∀l,l=lm (Int.toNat ((V4 a b c d+V4 e f g h) %
 21888242871839275222246405745257275088696311157297823662689037894645226208583)) 3→K (.agg [.int .u64 (.sym i),.int .u64 (.sym j),.int .u64 (.sym k),.int .u64 (.sym l)]) (memL [(513,⟨false,.cells [.int .u64 (.sym a0),.int .u64 (.sym
 a1),.int .u64 (.sym a2),.int .u64 (.sym a3)]⟩),(521,⟨false,.cells [.int .u64 (.sym b0),.int .u64 (.sym b1),.int .u64 (.sym b2),.int .u64 (.sym b3)]⟩),(529,⟨false,.cells [.int .u64 (.sym i),.int .u64 (.sym j),.int .u64 (.sym
 k),.int .u64 (.sym l)]⟩)]))):=by kernel_rfl
def rAd:R0:=fun args l=>
 match args,l with
 | [.agg [.int .u64 (.sym a0),.int .u64 (.sym a1),.int .u64 (.sym a2),.int .u64 (.sym a3)],.agg [.int .u64 (.sym b0),.int .u64 (.sym b1),.int .u64 (.sym b2),.int .u64 (.sym b3)]],[]=>
  some (some (((Wd a0∧Wd a1∧Wd a2∧Wd a3)∧(Wd b0∧Wd b1∧Wd b2∧Wd b3))∧V4 a0 a1 a2 a3<21888242871839275222246405745257275088696311157297823662689037894645226208583∧V4 b0 b1 b2 b3<21888242871839275222246405745257275088696311157297823662689037894645226208583),
   ag4 (lm ((V4 a0 a1 a2 a3+V4 b0 b1 b2 b3)%21888242871839275222246405745257275088696311157297823662689037894645226208583).toNat 0) (lm ((V4 a0 a1 a2 a3+V4 b0 b1 b2 b3)%21888242871839275222246405745257275088696311157297823662689037894645226208583).toNat 1) (lm ((V4 a0 a1 a2 a3+V4 b0 b1 b2 b3)%21888242871839275222246405745257275088696311157297823662689037894645226208583).toNat 2) (lm ((V4 a0 a1 a2 a3+V4 b0 b1 b2 b3)%21888242871839275222246405745257275088696311157297823662689037894645226208583).toNat 3))
 | _,_=>none
theorem ad_ok (args:List SV) (l:List (Nat×Reg)) (p:Ob) (v:SV) (h:rAd args l=some (p,v)) (hp:p.ok):∃U,execF cxAd U Tryz.f44 64 args (memL l) fun v' _=>v'=v:=by
 unfold rAd at h
 split at h
 ·rename_i a0 a1 a2 a3 b0 b1 b2 b3
  simp only[Option.some.injEq,Prod.mk.injEq]at h
  obtain ⟨rfl,rfl⟩:=h
  obtain ⟨⟨ha,hb⟩,hA,hB⟩:((Wd a0∧Wd a1∧Wd a2∧Wd a3)∧(Wd b0∧Wd b1∧Wd b2∧Wd b3))∧V4 a0 a1 a2 a3<21888242871839275222246405745257275088696311157297823662689037894645226208583∧V4 b0 b1 b2 b3<21888242871839275222246405745257275088696311157297823662689037894645226208583:=hp
  refine ⟨u9,?_⟩
  have:=vc_ad a0 a1 a2 a3 b0 b1 b2 b3 fun v' _=>v'=ag4 (lm ((V4 a0 a1 a2 a3+V4 b0 b1 b2 b3)%21888242871839275222246405745257275088696311157297823662689037894645226208583).toNat 0) (lm ((V4 a0 a1 a2 a3+V4 b0 b1 b2 b3)%21888242871839275222246405745257275088696311157297823662689037894645226208583).toNat 1) (lm ((V4 a0 a1 a2 a3+V4 b0 b1 b2 b3)%21888242871839275222246405745257275088696311157297823662689037894645226208583).toNat 2) (lm ((V4 a0 a1 a2 a3+V4 b0 b1 b2 b3)%21888242871839275222246405745257275088696311157297823662689037894645226208583).toNat 3)
  unfold ag4 at this
  refine this.mpr ?_
  clear this
  rintro _ rfl _ rfl _ rfl _ rfl _ rfl _ rfl _ rfl _ rfl
  refine ⟨⟨⟨ha,hb,wdq0,wdq1,wdq2,wdq3⟩,hA,hB⟩,?_⟩
  rintro _ rfl _ rfl _ rfl _ rfl
  rfl
 ·cases h
def cAd:Rd Tryz.prog:=mkR mixed 44 Tryz.func44 (by decide) (by kernel_rfl) [] [.num,.num] rAd ad_ok
def cxMm:Cx Tryz.prog:= { rds:= [cLs,cWd],efs:= [],eqs:= [] }
def dv:List Int→Int
 | []=>0
 | d::l=>d+4294967296*dv l
structure MoI where
 i:Nat
 d:List Int
def lowD (x:Nat) (i:Nat):Int:=((x%4294967296 ^ i:Nat):Int)
def digs (d:List Int) (n:Nat):Prop:=d.length=17∧(∀x∈d,0≤x∧x<4294967296)∧∀j,n≤j→d.getD j 0=0
def liMo (a b:List Int) (x y:Nat):LI where
 ι:=MoI
 keep:= [3,4,5,6,7]
 keepR:= [529,537]
 F:=fun s=>⟨[(8,i64n s.i)],[(513,⟨false,.ints .u64 a⟩),(521,⟨false,.ints .u64 b⟩),(553,⟨false,.ints .u64 s.d⟩)]⟩
 I:=fun _ s=>s.i≤8∧digs s.d (s.i+8)∧dv s.d=lowD x s.i*y
 μ:=fun s=>8-s.i
structure MiI where
 k:Nat
 c:Int
 d:List Int
def liMi (y:Nat):LI where
 ι:=MiI
 keep:= [3,4,5,6,7,8,9]
 keepR:= [513,521,529,537]
 F:=fun s=>⟨[(10,.int .u64 (.sym s.c)),(11,i64n s.k)],[(553,⟨false,.ints .u64 s.d⟩)]⟩
 I:=fun st s=>s.k≤8∧digs s.d ((st.int 8).toNat+8)∧0≤s.c∧s.c<4294967296∧dv s.d+s.c*4294967296 ^ ((st.int 8).toNat+s.k)=dv (st.reg 553)+st.int 9*lowD y s.k*4294967296 ^ (st.int 8).toNat
 μ:=fun s=>8-s.k
structure MsI where
 n:Nat
 r:Nat
def liMs (M:Nat):LI where
 ι:=MsI
 keep:= [5,6,7,14]
 keepR:= [529,537,553]
 F:=fun s=>⟨[(15,.int .i64 (.sym ((s.n:Nat)-1)))],[(601,⟨false,e4 s.r⟩)]⟩
 I:=fun st s=>s.n≤512∧s.r=(dv (st.reg 553)).toNat / 2 ^ s.n%M
 μ:=fun s=>s.n
def uMm (a b:List Int) (X Y M:Nat):Nat→Lp:=fun n=>match n with | 0=> .inv (liMo a b X Y) | 2=> .inv (liMi Y) | 4=> .inv (liMs M) | _=> .un 4
end Go.Sx
namespace Go.Sx
open Go
theorem dv_set:∀(d:List Int) (p:Nat) (v:Int),p<d.length→dv (d.set p v)=dv d+(v-d.getD p 0)*4294967296 ^ p
 | [],_,_,h=>absurd h (Nat.not_lt_zero _)
 | x::l,0,v,_=>by
  show v+4294967296*dv l=x+4294967296*dv l+(v-x)*4294967296 ^ 0
  rw[Int.pow_zero,Int.mul_one]
  omega
 | x::l,p+1,v,h=>by
  have ih:=dv_set l p v (by simpa using h)
  show x+4294967296*dv (l.set p v)=x+4294967296*dv l+(v-l.getD p 0)*4294967296 ^ (p+1)
  rw[ih,Int.pow_succ,Int.mul_add]
  have:(v-l.getD p 0)*(4294967296 ^ p*4294967296)=4294967296*((v-l.getD p 0)*4294967296 ^ p):=by
   rw[←Int.mul_assoc,Int.mul_comm]
  rw[this]
  omega
theorem lowD_succ (x i:Nat):lowD x (i+1)=lowD x i+((x / 4294967296 ^ i%4294967296:Nat):Int)*4294967296 ^ i:=by
 unfold lowD
 rw[Nat.mod_pow_succ,Int.natCast_add,Int.natCast_mul,Int.mul_comm,Int.natCast_pow]
 rfl
theorem lowD_zero (x:Nat):lowD x 0=0:=by
 unfold lowD
 rw[Nat.pow_zero,Nat.mod_one]
 rfl
theorem lowD_all {x:Nat} (h:x<2 ^ 256):lowD x 8=x:=by
 unfold lowD
 rw[Nat.mod_eq_of_lt h]
theorem dv_nonneg:∀ {d:List Int},(∀x∈d,0≤x∧x<4294967296)→0≤dv d
 | [],_=>Int.le_refl _
 | x::l,h=>by
  have:=dv_nonneg (d:=l) fun y hy=>h y (List.mem_cons_of_mem _ hy)
  have:=(h x List.mem_cons_self).1
  show 0≤x+4294967296*dv l
  omega
theorem dv_getD:∀ {d:List Int},(∀x∈d,0≤x∧x<4294967296)→∀p,(d.getD p 0:Int)=(((dv d).toNat / 4294967296 ^ p%4294967296:Nat):Int)
 | [],_,p=>by
  show (0:Int)=((0 / 4294967296 ^ p%4294967296:Nat):Int)
  rw[Nat.zero_div]
  rfl
 | x::l,h,0=>by
  have h0:=dv_nonneg (d:=l) fun y hy=>h y (List.mem_cons_of_mem _ hy)
  have h1:=h x List.mem_cons_self
  show x=(((x+4294967296*dv l).toNat / 4294967296 ^ 0%4294967296:Nat):Int)
  rw[Nat.pow_zero,Nat.div_one]
  omega
 | x::l,h,p+1=>by
  have h0:=dv_nonneg (d:=l) fun y hy=>h y (List.mem_cons_of_mem _ hy)
  have h1:=h x List.mem_cons_self
  have ih:=dv_getD (d:=l) (fun y hy=>h y (List.mem_cons_of_mem _ hy)) p
  show l.getD p 0=(((x+4294967296*dv l).toNat / 4294967296 ^ (p+1)%4294967296:Nat):Int)
  rw[ih,Nat.pow_succ',←Nat.div_div_eq_div_mul]
  have:(x+4294967296*dv l).toNat / 4294967296=(dv l).toNat:=by omega
  rw[this]
theorem half_of {x i:Nat}:(x / 18446744073709551616 ^ (i / 2)%18446744073709551616) / 2 ^ (32*(i%2))%4294967296=x / 4294967296 ^ i%4294967296:=by
 have e:4294967296 ^ i=18446744073709551616 ^ (i / 2)*2 ^ (32*(i%2)):=by
  rw[show (18446744073709551616:Nat)=2 ^ 64 by decide,show (4294967296:Nat)=2 ^ 32 by decide,←Nat.pow_mul,←Nat.pow_mul,←Nat.pow_add]
  congr 1
  omega
 rw[e,←Nat.div_div_eq_div_mul]
 generalize x / 18446744073709551616 ^ (i / 2)=q
 rcases Nat.mod_two_eq_zero_or_one i with h | h
 ·rw[h];simp only[Nat.mul_zero,Nat.pow_zero,Nat.div_one];omega
 ·rw[h];simp only[Nat.mul_one,Nat.reducePow];omega
theorem prod_eq {d t P dvi:Int}:dvi+(t%4294967296-d)*P+(t / 4294967296)*(P*4294967296)=dvi+(t-d)*P:=by
 have h:(t / 4294967296)*(P*4294967296)=(t / 4294967296*4294967296)*P:=by rw[Int.mul_comm P,Int.mul_assoc]
 rw[h,Int.add_assoc,←Int.add_mul]
 congr 2
 omega
theorem bit_of {D n:Nat}:(D / 4294967296 ^ (n / 32)%4294967296) / 2 ^ (n%32)%2=D / 2 ^ n%2:=by
 have e:2 ^ n=4294967296 ^ (n / 32)*2 ^ (n%32):=by
  rw[show (4294967296:Nat)=2 ^ 32 by decide,←Nat.pow_mul,←Nat.pow_add]
  congr 1
  omega
 rw[e,←Nat.div_div_eq_div_mul]
 generalize D / 4294967296 ^ (n / 32)=q
 have hs:n%32<32:=Nat.mod_lt _ (by decide)
 generalize n%32=s at hs
 have e2:(4294967296:Nat)=2 ^ s*(2*2 ^ (31-s)):=by
  rw[←Nat.pow_succ',←Nat.pow_add,show s+(31-s+1)=32 by omega]
 rw[e2,Nat.mod_mul_right_div_self,Nat.mod_mul_right_mod]
theorem rest_succ {D n M:Nat} (hM:0<M):(2*(D / 2 ^ (n+1)%M)+D / 2 ^ n%2)%M=D / 2 ^ n%M:=by
 have e:D / 2 ^ n=2*(D / 2 ^ (n+1))+D / 2 ^ n%2:=by
  rw[Nat.pow_succ,←Nat.div_div_eq_div_mul]
  omega
 conv=>rhs;rw[e]
 rw[Nat.add_mod,Nat.mul_mod,Nat.mod_mod,←Nat.mul_mod,←Nat.add_mod]
end Go.Sx
namespace Go.Sx
open Go
set_option maxRecDepth 100000
theorem elW_getD (X:Nat):∀k,k<4→[lm X 0,lm X 1,lm X 2,lm X 3].getD k 0=lm X k
 | 0,_=>rfl
 | 1,_=>rfl
 | 2,_=>rfl
 | 3,_=>rfl
 | k+4,h=>absurd h (by omega)
theorem dig_of {X i:Nat} (hi:i<8) {x2 x3 x4 x5 x6 x7:Int} (h2:x2=IntKind.i64.wrap (Int.tdiv (i:Int) 2)) (h3:x3= [lm X 0,lm X 1,lm X 2,lm X 3].getD (x2.toNat*1) 0) (h4:x4=Int.tmod (i:Int) 2) (h5:x5=IntKind.i64.wrap (32*x4))
  (h6:x6=shrv .u64 x3 x5.toNat) (h7:x7=Int.tmod x6 4294967296):(0≤x2∧x2<4)∧0≤x5∧x7=((X / 4294967296 ^ i%4294967296:Nat):Int):=by
 rw[Int.tdiv_eq_ediv_of_nonneg (by omega),wrap64 (by omega) (by omega)]at h2
 rw[Int.tmod_eq_emod_of_nonneg (by omega)]at h4
 rw[wrap64 (by omega) (by omega)]at h5
 have e2:x2.toNat=i / 2:=by omega
 have e5:x5.toNat=32*(i%2):=by omega
 rw[e2,Nat.mul_one,elW_getD X _ (by omega)]at h3
 rw[e5,h3,shr64 (lm_wd _ _).1 (by omega)]at h6
 have e6:x6=((X / 18446744073709551616 ^ (i / 2)%18446744073709551616 / 2 ^ (32*(i%2)):Nat):Int):=by
  rw[h6]
  unfold lm
  rw[Int.natCast_ediv,Int.natCast_pow]
  rfl
 rw[Int.tmod_eq_emod_of_nonneg (by rw[e6];exact Int.natCast_nonneg _)]at h7
 refine ⟨by omega,by omega,?_⟩
 rw[h7,e6,←half_of]
 rfl
theorem mul_lt32 {x y:Int} (hx:0≤x∧x<4294967296) (hy:0≤y∧y<4294967296):0≤x*y∧x*y≤18446744065119617025:=by
 refine ⟨Int.mul_nonneg hx.1 hy.1,?_⟩
 have h1:x*y≤4294967295*y:=Int.mul_le_mul_of_nonneg_right (by omega) hy.1
 omega
theorem digs_get {d:List Int} {n:Nat} (h:digs d n) (j:Nat):0≤d.getD j 0∧d.getD j 0<4294967296:=by
 rw[List.getD_eq_getElem?_getD]
 cases e:d[j]? with
 | none=>exact ⟨Int.le_refl _,by decide⟩
 | some x=>exact h.2.1 x (List.mem_of_getElem? e)
theorem digs_set {d:List Int} {n p:Nat} {v:Int} (h:digs d n) (hv:0≤v∧v<4294967296) (hp:p<n):digs (d.set p v) n:=by
 refine ⟨by rw[List.length_set];exact h.1,?_,?_⟩
 ·intro x hx
  rcases List.mem_or_eq_of_mem_set hx with h1 | h1
  ·exact h.2.1 x h1
  ·rw[h1];exact hv
 ·intro j hj
  rw[List.getD_eq_getElem?_getD,List.getElem?_set_ne (by omega),←List.getD_eq_getElem?_getD]
  exact h.2.2 j hj
theorem in_step {d:List Int} {i k n Y:Nat} {c x y x16 x17 x18 x19 x20 x21 x22 x23 D0:Int} (hd:digs d n) (hn:n=i+8) (hi:i<8) (hk:k<8) (hc0:0≤c) (hc1:c<4294967296) (hx:0≤x∧x<4294967296)
  (hy:y=((Y / 4294967296 ^ k%4294967296:Nat):Int)) (e:dv d+c*4294967296 ^ (i+k)=D0+x*lowD Y k*4294967296 ^ i)
  (h16:x16=IntKind.i64.wrap ((i:Int)+(k:Int))) (h17:x17=d.getD (x16.toNat*1) 0) (h18:x18=IntKind.u64.wrap (x*y)) (h19:x19=IntKind.u64.wrap (x17+x18)) (h20:x20=IntKind.u64.wrap (x19+c))
  (h21:x21=IntKind.i64.wrap ((i:Int)+(k:Int))) (h22:x22=Int.tmod x20 4294967296) (h23:x23=IntKind.u64.wrap (Int.tdiv x20 4294967296)):
  (0≤x16∧x16<17)∧x16.toNat*1+1≤d.length∧(0≤x21∧x21<17)∧x21.toNat*1<d.length∧digs (d.set (x21.toNat*1) x22) n∧0≤x23∧x23<4294967296∧
   dv (d.set (x21.toNat*1) x22)+x23*4294967296 ^ (i+(k+1))=D0+x*lowD Y (k+1)*4294967296 ^ i:=by
 rw[wrap64 (by omega) (by omega)]at h16 h21
 have e16:x16.toNat=i+k:=by omega
 have e21:x21.toNat=i+k:=by omega
 rw[e16,Nat.mul_one]at h17
 have g:=digs_get hd (i+k)
 rw[←h17]at g
 have hy':0≤y∧y<4294967296:=by rw[hy];omega
 obtain ⟨p0,p1⟩:=mul_lt32 hx hy'
 rw[wu64]at h18 h19 h20 h23
 generalize hp:x*y=p at h18 p0 p1
 have t:x20=x17+p+c:=by omega
 rw[Int.tmod_eq_emod_of_nonneg (by omega)]at h22
 rw[Int.tdiv_eq_ediv_of_nonneg (by omega)]at h23
 have h23':x23=x20 / 4294967296:=by omega
 have hl:=hd.1
 have h22b:0≤x22∧x22<4294967296:=by omega
 refine ⟨by omega,by omega,by omega,by omega,?_,by omega,by omega,?_⟩
 ·rw[e21,Nat.mul_one]
  exact digs_set hd h22b (by omega)
 ·rw[e21,Nat.mul_one,dv_set d (i+k) x22 (by omega),←h17,h22,h23',show i+(k+1)=i+k+1 by omega,Int.pow_succ,prod_eq,lowD_succ,←hy,t,
   show x17+p+c-x17=p+c by omega,←hp,Int.mul_add,Int.add_mul,Int.add_mul]
  have e3:x*(y*4294967296 ^ k)*4294967296 ^ i=x*y*4294967296 ^ (i+k):=by
   rw[Int.pow_add,←Int.mul_assoc x y,Int.mul_assoc (x*y),Int.mul_comm (4294967296 ^ k)]
  rw[e3]
  omega
theorem shl1 (x:Int):shlv .u64 x 1=x*2%18446744073709551616:=by
 unfold shlv
 rw[wu64,show min 1 IntKind.u64.bits=1 by simp[IntKind.bits],Int.pow_one]
theorem shr63 {x:Int} (h:0≤x):shrv .u64 x 63=x / 9223372036854775808:=by
 rw[shr64 h (by omega)]
 rfl
theorem dbl_eq {a0 a1 a2 a3 b y0 y1 y2 y3 h:Int} (w0:Wd a0) (w1:Wd a1) (w2:Wd a2) (w3:Wd a3) (hb:0≤b∧b<2) (e0:y0=(a0*2%18446744073709551616+b)%18446744073709551616)
  (e1:y1=(a1*2%18446744073709551616+a0 / 9223372036854775808)%18446744073709551616) (e2:y2=(a2*2%18446744073709551616+a1 / 9223372036854775808)%18446744073709551616)
  (e3:y3=(a3*2%18446744073709551616+a2 / 9223372036854775808)%18446744073709551616) (eh:h=a3 / 9223372036854775808):
  (Wd y0∧Wd y1∧Wd y2∧Wd y3)∧(h=0∨h=1)∧V4 y0 y1 y2 y3+h*115792089237316195423570985008687907853269984665640564039457584007913129639936=2*V4 a0 a1 a2 a3+b:=by
 unfold Wd at *
 have f0:y0=a0*2+b-(a0 / 9223372036854775808)*18446744073709551616:=by omega
 have f1:y1=a1*2+a0 / 9223372036854775808-(a1 / 9223372036854775808)*18446744073709551616:=by omega
 have f2:y2=a2*2+a1 / 9223372036854775808-(a2 / 9223372036854775808)*18446744073709551616:=by omega
 have f3:y3=a3*2+a2 / 9223372036854775808-(a3 / 9223372036854775808)*18446744073709551616:=by omega
 refine ⟨by omega,by omega,?_⟩
 rw[f0,f1,f2,f3,eh]
 unfold V4
 generalize a0 / 9223372036854775808=c0
 generalize a1 / 9223372036854775808=c1
 generalize a2 / 9223372036854775808=c2
 generalize a3 / 9223372036854775808=c3
 omega
theorem ms_step {D M p r:Nat} {y0 y1 y2 y3 h:Int} (hM:0<M) (hlM:M<115792089237316195423570985008687907853269984665640564039457584007913129639936) (hr:r=D / 2 ^ (p+1)%M) (w:Wd y0∧Wd y1∧Wd y2∧Wd y3) (hh:h=0∨h=1)
  (e:V4 y0 y1 y2 y3+h*115792089237316195423570985008687907853269984665640564039457584007913129639936=2*(r:Int)+((D / 2 ^ p%2:Nat):Int)):
  ((h=1∨¬V4 y0 y1 y2 y3<M)→w256 (V4 y0 y1 y2 y3-M)=D / 2 ^ p%M)∧(h=0→V4 y0 y1 y2 y3<M→y0=lm (D / 2 ^ p%M) 0∧y1=lm (D / 2 ^ p%M) 1∧y2=lm (D / 2 ^ p%M) 2∧y3=lm (D / 2 ^ p%M) 3):=by
 obtain ⟨w0,w1,w2,w3⟩:=w
 have rs:=rest_succ (D:=D) (n:=p) hM
 have hlt:r<M:=by rw[hr];exact Nat.mod_lt _ hM
 rw[←hr]at rs
 rw[←rs]
 have hb:D / 2 ^ p%2<2:=Nat.mod_lt _ (by decide)
 generalize D / 2 ^ p%2=b at *
 have n0:=V4_nonneg w0 w1 w2 w3
 have n1:=V4_lt w0 w1 w2 w3
 constructor
 ·intro hc
  have hge:M≤2*r+b:=by omega
  rw[Nat.mod_eq_sub_mod hge,Nat.mod_eq_of_lt (by omega)]
  unfold w256
  omega
 ·intro h0 hc
  have:2*r+b<M:=by omega
  rw[Nat.mod_eq_of_lt this]
  exact lm_of w0 w1 w2 w3 (by omega)
theorem ms_zero {D M n x:Nat} (h:D=x) (hlt:x<2 ^ n):0=D / 2 ^ n%M:=by
 rw[h,Nat.div_eq_of_lt hlt,Nat.zero_mod]
theorem bit_fetch {d:List Int} {n:Nat} (hd:∀x∈d,0≤x∧x<4294967296) (hn:1≤n) (hn2:n≤512) {x42 x43 x44 x45 x46:Int} (h42:x42=IntKind.i64.wrap (Int.tdiv ((n:Int)-1) 32)) (h43:x43=d.getD (x42.toNat*1) 0)
  (h44:x44=Int.tmod ((n:Int)-1) 32) (h45:x45=shrv .u64 x43 x44.toNat) (h46:x46=Int.tmod x45 2):
  (0≤x42∧x42<17)∧0≤x44∧x46=(((dv d).toNat / 2 ^ (n-1)%2:Nat):Int):=by
 rw[Int.tdiv_eq_ediv_of_nonneg (by omega),wrap64 (by omega) (by omega)]at h42
 rw[Int.tmod_eq_emod_of_nonneg (by omega)]at h44
 have e42:x42.toNat=(n-1) / 32:=by omega
 have e44:x44.toNat=(n-1)%32:=by omega
 rw[e42,Nat.mul_one,dv_getD hd]at h43
 rw[e44,h43,shr64 (Int.natCast_nonneg _) (by omega)]at h45
 have e45:x45=((((dv d).toNat / 4294967296 ^ ((n-1) / 32)%4294967296) / 2 ^ ((n-1)%32):Nat):Int):=by
  rw[h45,Int.natCast_ediv,Int.natCast_pow]
  rfl
 rw[Int.tmod_eq_emod_of_nonneg (by rw[e45];exact Int.natCast_nonneg _)]at h46
 refine ⟨by omega,by omega,?_⟩
 rw[h46,e45,←bit_of]
 rfl
end Go.Sx
namespace Go.Sx
open Go Go.Proofs
set_option maxRecDepth 100000
theorem vc_mm (X Y M:Nat) (a0 a1 a2 a3 b0 b1 b2 b3 m0 m1 m2 m3:Int) (K:SV→Mem→Prop):(execF cxMm (uMm [a0,a1,a2,a3] [b0,b1,b2,b3] X Y M) Tryz.f94 64 [ag4 a0 a1 a2 a3,ag4 b0 b1 b2 b3,ag4 m0 m1 m2 m3] (memL []) K)=((∃l:MoI,
 (MoI.i l≤8∧digs (MoI.d l) (MoI.i l+8)∧dv (MoI.d l)=lowD X (MoI.i l)*((Y:Nat):Int))∧0=((MoI.i l:Nat):Int)∧(m0=m0∧m1=m1∧m2=m2∧m3=m3)∧[a0,a1,a2,a3]= [a0,a1,a2,a3]∧[b0,b1,b2,b3]= [b0,b1,
 b2,b3]∧[(0:Int),(0:Int),(0:Int),(0:Int),(0:Int),(0:Int),(0:Int),(0:Int),(0:Int),(0:Int),(0:Int),(0:Int),(0:Int),(0:Int),(0:Int),(0:Int),(0:Int)]=MoI.d l)∧∀a:MoI,MoI.i a≤8∧
 digs (MoI.d a) (MoI.i a+8)∧dv (MoI.d a)=lowD X (MoI.i a)*((Y:Nat):Int)→(decide (((MoI.i a:Nat):Int)<8)=true→∀C,C=IntKind.wrap IntKind.i64 (Int.tdiv ((MoI.i a:Nat):Int) (2:Int))→(0≤C∧C<4)∧
 (Int.toNat C*1+1≤List.length [a0,a1,a2,a3]∧∀x3:Int,x3=List.getD [a0,a1,a2,a3] (Int.toNat C*1) (0:Int)→∀x4,x4=Int.tmod ((MoI.i a:Nat):Int) (2:Int)→∀x5,x5=IntKind.wrap IntKind.i64 (32*x4)→(0≤x5
 ∧∀x6,x6=shrv .u64 x3 (Int.toNat x5)→∀f,f=Int.tmod x6 (4294967296:Int)→((∃e:MiI,(MiI.k e≤8∧digs (MiI.d e) (Int.toNat ((MoI.i a:Nat):Int)+8)∧0≤MiI.c e∧MiI.c e<4294967296∧dv (MiI.d e)+MiI.c e *
 (4294967296:Int) ^ (Int.toNat ((MoI.i a:Nat):Int)+MiI.k e)=dv (MoI.d a)+f*lowD Y (MiI.k e)*(4294967296:Int) ^ Int.toNat ((MoI.i a:Nat):Int))∧(((MoI.i a:Nat):Int)=((MoI.i a:Nat):Int)∧f=f∧0=MiI.c e∧
 0=((MiI.k e:Nat):Int))∧[a0,a1,a2,a3]= [a0,a1,a2,a3]∧[b0,b1,b2,b3]= [b0,b1,b2,b3]∧(m0=m0∧m1=m1∧m2=m2∧m3=m3)∧MoI.d a=MiI.d e)∧∀c:MiI,MiI.k c≤8∧digs (MiI.d c) (Int.toNat ((MoI.i a:Nat):
 Int)+8)∧0≤MiI.c c∧MiI.c c<4294967296∧dv (MiI.d c)+MiI.c c*(4294967296:Int) ^ (Int.toNat ((MoI.i a:Nat):Int)+MiI.k c)=dv (MoI.d a)+f*lowD Y (MiI.k c)*(4294967296:Int) ^ Int.toNat ((MoI.i a:Nat):Int)→
 (decide (((MiI.k c:Nat):Int)<8)=true→∀D,D=IntKind.wrap IntKind.i64 (Int.tdiv ((MiI.k c:Nat):Int) (2:Int))→(0≤D∧D<4)∧(Int.toNat D*1+1≤List.length [b0,b1,b2,b3]∧∀an:Int,an=List.getD [b0,b1,b2,
 b3] (Int.toNat D*1) (0:Int)→∀ao,ao=Int.tmod ((MiI.k c:Nat):Int) (2:Int)→∀ac,ac=IntKind.wrap IntKind.i64 (32*ao)→(0≤ac∧∀ap,ap=shrv .u64 an (Int.toNat ac)→∀aq,aq=Int.tmod ap (4294967296:Int)→∀E,E
 =IntKind.wrap IntKind.i64 (((MoI.i a:Nat):Int)+((MiI.k c:Nat):Int))→(0≤E∧E<17)∧(Int.toNat E*1+1≤List.length (MiI.d c)∧∀ar:Int,ar=List.getD (MiI.d c) (Int.toNat E*1) (0:Int)→∀au,au=IntKind.wrap
 IntKind.u64 (f*aq)→∀av,av=IntKind.wrap IntKind.u64 (ar+au)→∀ad,ad=IntKind.wrap IntKind.u64 (av+MiI.c c)→∀F,F=IntKind.wrap IntKind.i64 (((MoI.i a:Nat):Int)+((MiI.k c:Nat):Int))→∀aw,aw=Int.tmod ad
 (4294967296:Int)→(0≤F∧F<17)∧(Int.toNat F*1<List.length (MiI.d c)∧∀ax,ax=IntKind.wrap IntKind.u64 (Int.tdiv ad (4294967296:Int))→∀ay,ay=IntKind.wrap IntKind.i64 (((MiI.k c:Nat):Int)+1)→∃d:MiI,(MiI.k
 d≤8∧digs (MiI.d d) (Int.toNat ((MoI.i a:Nat):Int)+8)∧0≤MiI.c d∧MiI.c d<4294967296∧dv (MiI.d d)+MiI.c d*(4294967296:Int) ^ (Int.toNat ((MoI.i a:Nat):Int)+MiI.k d)=dv (MoI.d a)+f*lowD Y (MiI.k d) *
 (4294967296:Int) ^ Int.toNat ((MoI.i a:Nat):Int))∧((((MoI.i a:Nat):Int)=((MoI.i a:Nat):Int)∧f=f∧ax=MiI.c d∧ay=((MiI.k d:Nat):Int))∧[a0,a1,a2,a3]= [a0,a1,a2,a3]∧[b0,b1,b2,b3]= [b0,b1,b2,
 b3]∧(m0=m0∧m1=m1∧m2=m2∧m3=m3)∧List.set (MiI.d c) (Int.toNat F*1) aw=MiI.d d)∧8-MiI.k d<8-MiI.k c)))))∧(decide (((MiI.k c:Nat):Int)<8)=false→∀G,G=IntKind.wrap IntKind.i64 (((MoI.i a:Nat):
 Int)+8)→(0≤G∧G<17)∧(Int.toNat G*1<List.length (MiI.d c)∧∀az,az=IntKind.wrap IntKind.i64 (((MoI.i a:Nat):Int)+1)→∃j:MoI,(MoI.i j≤8∧digs (MoI.d j) (MoI.i j+8)∧dv (MoI.d j)=lowD X (MoI.i j)*((Y:
 Nat):Int))∧(az=((MoI.i j:Nat):Int)∧(m0=m0∧m1=m1∧m2=m2∧m3=m3)∧[a0,a1,a2,a3]= [a0,a1,a2,a3]∧[b0,b1,b2,b3]= [b0,b1,b2,b3]∧List.set (MiI.d c) (Int.toNat G*1) (MiI.c c)=MoI.d j)∧8-MoI.i j <
 8-MoI.i a))))))∧(decide (((MoI.i a:Nat):Int)<8)=false→((∃k:MsI,(MsI.n k≤512∧MsI.r k=Int.toNat (dv (MoI.d a)) / (2:Nat) ^ MsI.n k%M)∧511=((MsI.n k:Nat):Int)-1∧(m0=m0∧m1=m1∧m2=m2∧m3=m3)∧
 MoI.d a=MoI.d a∧0=lm (MsI.r k) 0∧0=lm (MsI.r k) 1∧0=lm (MsI.r k) 2∧0=lm (MsI.r k) 3)∧∀b:MsI,MsI.n b≤512∧MsI.r b=Int.toNat (dv (MoI.d a)) / (2:Nat) ^ MsI.n b%M→(decide (((MsI.n b:Nat):Int)-1≥0)=
 true→∀ae,ae=shrv .u64 (lm (MsI.r b) 3) 63→∀a4,a4=shlv .u64 (lm (MsI.r b) 3) 1→∀a5,a5=shrv .u64 (lm (MsI.r b) 2) 63→∀H,H=IntKind.wrap IntKind.u64 (a4+a5)→∀a6,a6=shlv .u64 (lm (MsI.r b) 2) 1→∀a7,a7=shrv
 .u64 (lm (MsI.r b) 1) 63→∀I,I=IntKind.wrap IntKind.u64 (a6+a7)→∀a8,a8=shlv .u64 (lm (MsI.r b) 1) 1→∀a9,a9=shrv .u64 (lm (MsI.r b) 0) 63→∀J,J=IntKind.wrap IntKind.u64 (a8+a9)→∀ba,ba=shlv .u64 (lm (MsI.r b)
 0) 1→∀L,L=IntKind.wrap IntKind.i64 (Int.tdiv (((MsI.n b:Nat):Int)-1) (32:Int))→(0≤L∧L<17)∧(Int.toNat L*1+1≤List.length (MoI.d a)∧∀bb:Int,bb=List.getD (MoI.d a) (Int.toNat L*1) (0:Int)→∀af,af=
 Int.tmod (((MsI.n b:Nat):Int)-1) (32:Int)→(0≤af∧∀bc,bc=shrv .u64 bb (Int.toNat af)→∀bd,bd=Int.tmod bc (2:Int)→∀N,N=IntKind.wrap IntKind.u64 (ba+bd)→((ae==1)=true→∀m,m=N→∀n,n=J→∀o,o=
 I→∀p,p=H→∀q,q=m0→∀r,r=m1→∀s,s=m2→∀t,t=m3→(((Wd m∧Wd n∧Wd o∧Wd p)∧Wd q∧Wd r∧Wd s∧Wd t)∧∀be,be=lm (w256 (V4 m n o p-V4 q r s t)) 0→∀bf,bf=lm (w256 (V4 m n o p-V4 q r s t)) 1→∀
 bg,bg=lm (w256 (V4 m n o p-V4 q r s t)) 2→∀bh,bh=lm (w256 (V4 m n o p-V4 q r s t)) 3→∀bi,bi=IntKind.wrap IntKind.i64 (((MsI.n b:Nat):Int)-1-1)→∃g:MsI,(MsI.n g≤512∧MsI.r g=Int.toNat (dv (MoI.d a)) / (2
 :Nat) ^ MsI.n g%M)∧(bi=((MsI.n g:Nat):Int)-1∧(m0=m0∧m1=m1∧m2=m2∧m3=m3)∧MoI.d a=MoI.d a∧be=lm (MsI.r g) 0∧bf=lm (MsI.r g) 1∧bg=lm (MsI.r g) 2∧bh=lm (MsI.r g) 3)∧MsI.n g<MsI.n b))∧((ae
 ==1)=false→∀O,O=N→∀Q,Q=J→∀R,R=I→∀S,S=H→∀T,T=m0→∀V,V=m1→∀Z,Z=m2→∀aa,aa=m3→((Wd O∧Wd Q∧Wd R∧Wd S)∧Wd T∧Wd V∧Wd Z∧Wd aa)∧(Bool.not (decide (V4 O Q R S<V4 T V Z aa))=true
 →∀u,u=N→∀v,v=J→∀w,w=I→∀x,x=H→∀y,y=m0→∀z,z=m1→∀A,A=m2→∀B,B=m3→(((Wd u∧Wd v∧Wd w∧Wd x)∧Wd y∧Wd z∧Wd A∧Wd B)∧∀bj,bj=lm (w256 (V4 u v w x-V4 y z A B)) 0→∀bk,bk=lm
 (w256 (V4 u v w x-V4 y z A B)) 1→∀bl,bl=lm (w256 (V4 u v w x-V4 y z A B)) 2→∀bm,bm=lm (w256 (V4 u v w x-V4 y z A B)) 3→∀bn,bn=IntKind.wrap IntKind.i64 (((MsI.n b:Nat):Int)-1-1)→∃h:MsI,(MsI.n h≤512∧
 MsI.r h=Int.toNat (dv (MoI.d a)) / (2:Nat) ^ MsI.n h%M)∧(bn=((MsI.n h:Nat):Int)-1∧(m0=m0∧m1=m1∧m2=m2∧m3=m3)∧MoI.d a=MoI.d a∧bj=lm (MsI.r h) 0∧bk=lm (MsI.r h) 1∧bl=lm (MsI.r h) 2∧bm=lm
 (MsI.r h) 3)∧MsI.n h<MsI.n b))∧(Bool.not (decide (V4 O Q R S<V4 T V Z aa))=false→∀bo,bo=IntKind.wrap IntKind.i64 (((MsI.n b:Nat):Int)-1-1)→∃i:MsI,(MsI.n i≤512∧MsI.r i=Int.toNat (dv (MoI.d a)) / (2:Nat)
 ^ MsI.n i%M)∧(bo=((MsI.n i:Nat):Int)-1∧(m0=m0∧m1=m1∧m2=m2∧m3=m3)∧MoI.d a=MoI.d a∧N=lm (MsI.r i) 0∧J=lm (MsI.r i) 1∧I=lm (MsI.r i) 2∧H=lm (MsI.r i) 3)∧MsI.n i<MsI.n b)))))∧(decide
 (((MsI.n b:Nat):Int)-1≥0)=false→∀ag,ag=lm (MsI.r b) 0→∀ah,ah=lm (MsI.r b) 1→∀ai,ai=lm (MsI.r b) 2→∀aj,aj=lm (MsI.r b) 3→K (.agg [.int .u64 (.sym ag),.int .u64 (.sym ah),.int .u64 (.sym ai),.int .u64
 (.sym aj)]) (memL [(529,⟨false,.cells [.int .u64 (.sym m0),.int .u64 (.sym m1),.int .u64 (.sym m2),.int .u64 (.sym m3)]⟩),(537,⟨false,.cells [.int .u64 (.sym ag),.int .u64 (.sym ah),.int .u64 (.sym ai),.int .u64 (.sym aj)]⟩),
 (553,⟨false,.ints .u64 (MoI.d a)⟩),(601,⟨false,.cells [.int .u64 (.sym (lm (MsI.r b) 0)),.int .u64 (.sym (lm (MsI.r b) 1)),.int .u64 (.sym (lm (MsI.r b) 2)),.int .u64 (.sym (lm (MsI.r b) 3))]⟩)]))))):=by kernel_rfl
theorem mm_walk (X Y M:Nat) (a0 a1 a2 a3 b0 b1 b2 b3 m0 m1 m2 m3:Int) (K:SV→Mem→Prop) (ha:Ws a0 a1 a2 a3 X) (hb:Ws b0 b1 b2 b3 Y) (hm:Ws m0 m1 m2 m3 M) (hM:0<M)
  (hK:∀r m',r=X*Y%M→K (ag4 (lm r 0) (lm r 1) (lm r 2) (lm r 3)) m'):
  execF cxMm (uMm [a0,a1,a2,a3] [b0,b1,b2,b3] X Y M) Tryz.f94 64 [ag4 a0 a1 a2 a3,ag4 b0 b1 b2 b3,ag4 m0 m1 m2 m3] (memL []) K:=by
 obtain ⟨rfl,rfl,rfl,rfl,hX⟩:=ha
 obtain ⟨rfl,rfl,rfl,rfl,hY⟩:=hb
 rw[vc_mm]
 refine ⟨⟨⟨0,List.replicate 17 0⟩,?_⟩,?_⟩
 ·refine ⟨⟨Nat.zero_le _,⟨by simp,?_,?_⟩,?_⟩,rfl,⟨rfl,rfl,rfl,rfl⟩,rfl,rfl,rfl⟩
  ·intro x hx
   rw[List.eq_of_mem_replicate hx]
   decide
  ·intro j _
   rw[List.getD_eq_getElem?_getD,List.getElem?_replicate]
   split<;>rfl
  ·rw[lowD_zero,Int.zero_mul]
   rfl
 rintro ⟨i,d⟩ ⟨hi,hd,e⟩
 dsimp only at hi hd e ⊢
 refine ⟨fun h=> ?_,fun h=> ?_⟩
 ·simp only[decide_eq_true_eq]at h
  have hi':i<8:=by omega
  rintro x2 h2
  have q2:=h2
  rw[Int.tdiv_eq_ediv_of_nonneg (by omega),wrap64 (by omega) (by omega)]at q2
  refine ⟨by omega,by simp only[List.length_cons,List.length_nil];omega,?_⟩
  rintro x3 h3 x4 h4 x5 h5
  have q:=fun x6 x7 h6 h7=>dig_of (X:=X) hi' (x6:=x6) (x7:=x7) h2 h3 h4 h5 h6 h7
  refine ⟨(q _ _ rfl rfl).2.1,?_⟩
  rintro x6 h6 x7 h7
  have hx7:=(q _ _ h6 h7).2.2
  refine ⟨⟨⟨0,0,d⟩,?_⟩,?_⟩
  ·refine ⟨⟨Nat.zero_le _,by rw[Int.toNat_natCast];exact hd,Int.le_refl _,by show (0:Int)<4294967296;decide,by rw[lowD_zero];simp⟩,⟨rfl,rfl,rfl,rfl⟩,rfl,rfl,⟨rfl,rfl,rfl,rfl⟩,rfl⟩
  rintro ⟨k,c,d'⟩ ⟨hk,hd',hc0,hc1,e'⟩
  dsimp only at hk hd' hc0 hc1 e' ⊢
  rw[Int.toNat_natCast]at hd' e'
  simp only[Int.toNat_natCast]
  refine ⟨fun h=> ?_,fun h=> ?_⟩
  ·simp only[decide_eq_true_eq]at h
   have hk':k<8:=by omega
   rintro x10 h10
   have q10:=h10
   rw[Int.tdiv_eq_ediv_of_nonneg (by omega),wrap64 (by omega) (by omega)]at q10
   refine ⟨by omega,by simp only[List.length_cons,List.length_nil];omega,?_⟩
   rintro x11 h11 x12 h12 x13 h13
   have r:=fun x14 x15 h14 h15=>dig_of (X:=Y) hk' (x6:=x14) (x7:=x15) h10 h11 h12 h13 h14 h15
   refine ⟨(r _ _ rfl rfl).2.1,?_⟩
   rintro x14 h14 x15 h15
   have hx15:=(r _ _ h14 h15).2.2
   have st:=fun x16 x17 x18 x19 x20 x21 x22 x23 h16 h17 h18 h19 h20 h21 h22 h23=>in_step (x16:=x16) (x17:=x17) (x18:=x18) (x19:=x19) (x20:=x20) (x21:=x21) (x22:=x22) (x23:=x23) hd' rfl hi' hk' hc0 hc1 (by rw[hx7];omega) hx15 e' h16 h17 h18 h19 h20 h21 h22 h23
   rintro x16 h16
   have s0:=st x16 _ _ _ _ x16 _ _ h16 rfl rfl rfl rfl h16 rfl rfl
   refine ⟨s0.1,s0.2.1,?_⟩
   rintro x17 h17 x18 h18 x19 h19 x20 h20 x21 h21 x22 h22
   have s1:=st x16 x17 x18 x19 x20 x21 x22 _ h16 h17 h18 h19 h20 h21 h22 rfl
   refine ⟨s1.2.2.1,s1.2.2.2.1,?_⟩
   rintro x23 h23 x24 h24
   rw[wrap64 (by omega) (by omega)]at h24
   obtain ⟨_,_,_,_,u1,u2,u3,u4⟩:=st x16 x17 x18 x19 x20 x21 x22 x23 h16 h17 h18 h19 h20 h21 h22 h23
   refine ⟨⟨k+1,x23,d'.set (x21.toNat*1) x22⟩,⟨hk',u1,u2,u3,u4⟩,?_⟩
   repeat' apply And.intro
   all_goals first | rfl | trivial | (simp only;omega)
  ·simp only[decide_eq_false_iff_not]at h
   have hk':k=8:=by omega
   rintro x26 h26
   rw[wrap64 (by omega) (by omega)]at h26
   have e26:x26.toNat=i+8:=by omega
   have hl:=hd'.1
   refine ⟨by omega,by omega,?_⟩
   rintro x27 h27
   rw[wrap64 (by omega) (by omega)]at h27
   rw[e26,Nat.mul_one]
   refine ⟨⟨i+1,d'.set (i+8) c⟩,⟨hi',?_,?_⟩,?_⟩
   ·exact digs_set ⟨hd'.1,hd'.2.1,fun j hj=>hd'.2.2 j (by simp only at hj;omega)⟩ ⟨hc0,hc1⟩ (by simp only;omega)
   ·show dv (d'.set (i+8) c)=lowD X (i+1)*(Y:Int)
    rw[dv_set d' (i+8) c (by omega),hd'.2.2 (i+8) (Nat.le_refl _),Int.sub_zero,lowD_succ,←hx7,Int.add_mul,←e]
    rw[hk',lowD_all hY]at e'
    rw[e',Int.mul_right_comm]
   ·repeat' apply And.intro
    all_goals first | rfl | trivial | (simp only;omega)
 ·simp only[decide_eq_false_iff_not]at h
  have h8:i=8:=by omega
  rw[h8,lowD_all hX]at e
  have hD:(dv d).toNat=X*Y:=by rw[e,←Int.natCast_mul,Int.toNat_natCast]
  have hlt:X*Y<2 ^ 512:=Nat.lt_of_lt_of_le (Nat.mul_lt_mul'' hX hY) (by decide +kernel)
  have mw:=hm.wd
  have mv:=hm.val
  have ml:=hm.lt
  refine ⟨⟨⟨512,0⟩,⟨Nat.le_refl _,?_⟩,rfl,⟨rfl,rfl,rfl,rfl⟩,rfl,?_⟩,?_⟩
  ·dsimp only
   rw[hD,Nat.div_eq_of_lt hlt,Nat.zero_mod]
  ·have z0:∀i,lm 0 i=0:=fun i=>by
    unfold lm
    simp
   simp only[z0]
   exact ⟨trivial,trivial,trivial,trivial⟩
  rintro ⟨n,r⟩ ⟨hn,hr⟩
  dsimp only at hn hr ⊢
  refine ⟨fun h=> ?_,fun h=> ?_⟩
  ·simp only[decide_eq_true_eq]at h
   have hr':=hr
   obtain ⟨p,rfl⟩:∃p,n=p+1:=⟨n-1,by omega⟩
   have hlt:r<M:=by rw[hr];exact Nat.mod_lt _ hM
   rintro x31 h31 x32 h32 x33 h33 x34 h34 x35 h35 x36 h36 x37 h37 x38 h38 x39 h39 x40 h40 x41 h41 x42 h42
   have bf:=fun x43 x44 x45 x46=>bit_fetch (x43:=x43) (x44:=x44) (x45:=x45) (x46:=x46) hd.2.1 (by omega) hn h42
   have b0:=(bf _ _ _ _ rfl rfl rfl rfl).1
   refine ⟨b0,by have:=hd.1;omega,?_⟩
   rintro x43 h43 x44 h44
   refine ⟨(bf x43 x44 _ _ h43 h44 rfl rfl).2.1,?_⟩
   rintro x45 h45 x46 h46 x47 h47
   obtain ⟨_,_,e46⟩:=bf x43 x44 x45 x46 h43 h44 h45 h46
   rw[shl1]at h32 h35 h38 h41
   rw[shr63 (lm_wd _ _).1]at h31 h33 h36 h39
   rw[wu64]at h34 h37 h40 h47
   subst h32 h33 h35 h36 h38 h39 h41
   have hb:0≤x46∧x46<2:=by rw[e46];omega
   obtain ⟨yw,yh,ye⟩:=dbl_eq (lm_wd _ _) (lm_wd _ _) (lm_wd _ _) (lm_wd _ _) hb h47 h40 h37 h34 h31
   rw[lm_val (by omega),e46,Nat.add_sub_cancel,hD]at ye
   rw[hD]at hr
   obtain ⟨s1,s2⟩:=ms_step hM ml hr yw yh ye
   have mval:V4 m0 m1 m2 m3=(M:Int):=mv
   have fin:∀z0 z1 z2 z3 x:Int,x=IntKind.i64.wrap (((((p+1:Nat)):Int)-1)-1)→z0=lm (X*Y / 2 ^ p%M) 0→z1=lm (X*Y / 2 ^ p%M) 1→z2=lm (X*Y / 2 ^ p%M) 2→z3=lm (X*Y / 2 ^ p%M) 3→
     ∃w:MsI,(w.n≤512∧w.r=(dv d).toNat / 2 ^ w.n%M)∧((x=((w.n:Nat):Int)-1∧(m0=m0∧m1=m1∧m2=m2∧m3=m3)∧d=d∧z0=lm w.r 0∧z1=lm w.r 1∧z2=lm w.r 2∧z3=lm w.r 3)∧w.n<p+1):=by
    intro z0 z1 z2 z3 x hx e0 e1 e2 e3
    rw[wrap64 (by omega) (by omega)]at hx
    exact ⟨⟨p,X*Y / 2 ^ p%M⟩,⟨by simp only;omega,by simp only;rw[hD]⟩,⟨by simp only;omega,⟨rfl,rfl,rfl,rfl⟩,rfl,e0,e1,e2,e3⟩,by simp only;omega⟩
   refine ⟨fun hh=> ?_,fun hh=> ?_⟩
   ·rintro x48 h48 x49 h49 x50 h50 x51 h51 x52 h52 x53 h53 x54 h54 x55 h55
    rw[h48,h49,h50,h51,h52,h53,h54,h55]
    refine ⟨⟨yw,mw⟩,?_⟩
    rintro x56 h56 x57 h57 x58 h58 x59 h59 x60 h60
    have q:=s1 (.inl (by simpa using hh))
    rw[mval,q]at h56 h57 h58 h59
    exact fin _ _ _ _ _ h60 h56 h57 h58 h59
   ·rintro x48 h48 x49 h49 x50 h50 x51 h51 x52 h52 x53 h53 x54 h54 x55 h55
    rw[h48,h49,h50,h51,h52,h53,h54,h55]
    refine ⟨⟨yw,mw⟩,fun hq=> ?_,fun hq=> ?_⟩
    ·rintro x48 h48 x49 h49 x50 h50 x51 h51 x52 h52 x53 h53 x54 h54 x55 h55
     rw[h48,h49,h50,h51,h52,h53,h54,h55]
     refine ⟨⟨yw,mw⟩,?_⟩
     rintro x56 h56 x57 h57 x58 h58 x59 h59 x60 h60
     have q:=s1 (.inr (by rw[←mval];simpa using hq))
     rw[mval,q]at h56 h57 h58 h59
     exact fin _ _ _ _ _ h60 h56 h57 h58 h59
    ·rintro x60 h60
     have h0:x31=0:=by
      have:¬x31=1:=by simpa using hh
      omega
     obtain ⟨e0,e1,e2,e3⟩:=s2 h0 (by rw[←mval];simpa using hq)
     exact fin _ _ _ _ _ h60 e0 e1 e2 e3
  ·simp only[decide_eq_false_iff_not]at h
   have hn0:n=0:=by omega
   rintro _ rfl _ rfl _ rfl _ rfl
   exact hK r _ (by rw[hr,hn0,hD,Nat.pow_zero,Nat.div_one])
theorem Ws.of {a b c d:Int} (h:Wd a∧Wd b∧Wd c∧Wd d):Ws a b c d (V4 a b c d).toNat:=by
 obtain ⟨h0,h1,h2,h3⟩:=h
 have n0:=V4_nonneg h0 h1 h2 h3
 have n1:=V4_lt h0 h1 h2 h3
 obtain ⟨e0,e1,e2,e3⟩:=lm_of h0 h1 h2 h3 (x:=(V4 a b c d).toNat) (by omega)
 exact ⟨e0,e1,e2,e3,by omega⟩
def rMm:R0:=fun args l=>
 match args,l with
 | [.agg [.int .u64 (.sym a0),.int .u64 (.sym a1),.int .u64 (.sym a2),.int .u64 (.sym a3)],.agg [.int .u64 (.sym b0),.int .u64 (.sym b1),.int .u64 (.sym b2),.int .u64 (.sym b3)],.agg [.int .u64 (.sym m0),.int .u64 (.sym m1),.int .u64 (.sym m2),.int .u64 (.sym m3)]],[]=>
  some (some (((Wd a0∧Wd a1∧Wd a2∧Wd a3)∧(Wd b0∧Wd b1∧Wd b2∧Wd b3)∧(Wd m0∧Wd m1∧Wd m2∧Wd m3))∧0<V4 m0 m1 m2 m3),
   ag4 (lm ((V4 a0 a1 a2 a3).toNat*(V4 b0 b1 b2 b3).toNat%(V4 m0 m1 m2 m3).toNat) 0) (lm ((V4 a0 a1 a2 a3).toNat*(V4 b0 b1 b2 b3).toNat%(V4 m0 m1 m2 m3).toNat) 1) (lm ((V4 a0 a1 a2 a3).toNat*(V4 b0 b1 b2 b3).toNat%(V4 m0 m1 m2 m3).toNat) 2) (lm ((V4 a0 a1 a2 a3).toNat*(V4 b0 b1 b2 b3).toNat%(V4 m0 m1 m2 m3).toNat) 3))
 | _,_=>none
theorem mm_ok (args:List SV) (l:List (Nat×Reg)) (p:Ob) (v:SV) (h:rMm args l=some (p,v)) (hp:p.ok):∃U,execF cxMm U Tryz.f94 64 args (memL l) fun v' _=>v'=v:=by
 unfold rMm at h
 split at h
 ·rename_i a0 a1 a2 a3 b0 b1 b2 b3 m0 m1 m2 m3
  simp only[Option.some.injEq,Prod.mk.injEq]at h
  obtain ⟨rfl,rfl⟩:=h
  obtain ⟨⟨ha,hb,hm⟩,hM⟩:((Wd a0∧Wd a1∧Wd a2∧Wd a3)∧(Wd b0∧Wd b1∧Wd b2∧Wd b3)∧(Wd m0∧Wd m1∧Wd m2∧Wd m3))∧0<V4 m0 m1 m2 m3:=hp
  refine ⟨_,mm_walk _ _ _ a0 a1 a2 a3 b0 b1 b2 b3 m0 m1 m2 m3 _ (Ws.of ha) (Ws.of hb) (Ws.of hm) (by omega) fun r m' hr=> ?_⟩
  rw[hr]
 ·cases h
def cMm:Rd Tryz.prog:=mkR mixed 94 Tryz.func94 (by decide) (by kernel_rfl) [] [.num,.num,.num] rMm mm_ok
def cxMl:Cx Tryz.prog:= { rds:= [cPP,cMm],efs:= [],eqs:= [] }
theorem vc_ml (a0 a1 a2 a3 b0 b1 b2 b3:Int) (K:SV→Mem→Prop):(execF cxMl u9 Tryz.f43 64 [ag4 a0 a1 a2 a3,ag4 b0 b1 b2 b3] (memL []) K)=(∀a,a=a0→∀b,b=a1→∀c,c=a2→∀d,d=a3→∀e,e=b0→∀f,f=b1→∀g,g=
 b2→∀h,h=b3→((((Wd a∧Wd b∧Wd c∧Wd d)∧(Wd e∧Wd f∧Wd g∧Wd h)∧Wd (4332616871279656263:Int)∧Wd (10917124144477883021:Int)∧Wd (13281191951274694749:Int)∧Wd (3486998266802970665:Int))∧(0:Int) <
 (21888242871839275222246405745257275088696311157297823662689037894645226208583:Int))∧∀i,i=lm (Int.toNat (V4 a b c d)*Int.toNat (V4 e f g h)%21888242871839275222246405745257275088696311157297823662689037894645226208583) 0→∀j,
 j=lm (Int.toNat (V4 a b c d)*Int.toNat (V4 e f g h)%21888242871839275222246405745257275088696311157297823662689037894645226208583) 1→∀k,k=lm (Int.toNat (V4 a b c d)*Int.toNat (V4 e f g h) %
 21888242871839275222246405745257275088696311157297823662689037894645226208583) 2→∀l,l=lm (Int.toNat (V4 a b c d)*Int.toNat (V4 e f g h)%21888242871839275222246405745257275088696311157297823662689037894645226208583) 3→K (.agg
 [.int .u64 (.sym i),.int .u64 (.sym j),.int .u64 (.sym k),.int .u64 (.sym l)]) (memL [(513,⟨false,.cells [.int .u64 (.sym a0),.int .u64 (.sym a1),.int .u64 (.sym a2),.int .u64 (.sym a3)]⟩),(521,⟨false,.cells [.int .u64 (.sym
 b0),.int .u64 (.sym b1),.int .u64 (.sym b2),.int .u64 (.sym b3)]⟩),(529,⟨false,.cells [.int .u64 (.sym i),.int .u64 (.sym j),.int .u64 (.sym k),.int .u64 (.sym l)]⟩)]))):=by kernel_rfl
def rMl:R0:=fun args l=>
 match args,l with
 | [.agg [.int .u64 (.sym a0),.int .u64 (.sym a1),.int .u64 (.sym a2),.int .u64 (.sym a3)],.agg [.int .u64 (.sym b0),.int .u64 (.sym b1),.int .u64 (.sym b2),.int .u64 (.sym b3)]],[]=>
  some (some ((Wd a0∧Wd a1∧Wd a2∧Wd a3)∧(Wd b0∧Wd b1∧Wd b2∧Wd b3)),
   ag4 (lm ((V4 a0 a1 a2 a3).toNat*(V4 b0 b1 b2 b3).toNat%21888242871839275222246405745257275088696311157297823662689037894645226208583) 0) (lm ((V4 a0 a1 a2 a3).toNat*(V4 b0 b1 b2 b3).toNat%21888242871839275222246405745257275088696311157297823662689037894645226208583) 1) (lm ((V4 a0 a1 a2 a3).toNat*(V4 b0 b1 b2 b3).toNat%21888242871839275222246405745257275088696311157297823662689037894645226208583) 2) (lm ((V4 a0 a1 a2 a3).toNat*(V4 b0 b1 b2 b3).toNat%21888242871839275222246405745257275088696311157297823662689037894645226208583) 3))
 | _,_=>none
theorem ml_ok (args:List SV) (l:List (Nat×Reg)) (p:Ob) (v:SV) (h:rMl args l=some (p,v)) (hp:p.ok):∃U,execF cxMl U Tryz.f43 64 args (memL l) fun v' _=>v'=v:=by
 unfold rMl at h
 split at h
 ·rename_i a0 a1 a2 a3 b0 b1 b2 b3
  simp only[Option.some.injEq,Prod.mk.injEq]at h
  obtain ⟨rfl,rfl⟩:=h
  obtain ⟨ha,hb⟩:(Wd a0∧Wd a1∧Wd a2∧Wd a3)∧(Wd b0∧Wd b1∧Wd b2∧Wd b3):=hp
  refine ⟨u9,?_⟩
  have:=vc_ml a0 a1 a2 a3 b0 b1 b2 b3 fun v' _=>v'=ag4 (lm ((V4 a0 a1 a2 a3).toNat*(V4 b0 b1 b2 b3).toNat%21888242871839275222246405745257275088696311157297823662689037894645226208583) 0) (lm ((V4 a0 a1 a2 a3).toNat*(V4 b0 b1 b2 b3).toNat%21888242871839275222246405745257275088696311157297823662689037894645226208583) 1) (lm ((V4 a0 a1 a2 a3).toNat*(V4 b0 b1 b2 b3).toNat%21888242871839275222246405745257275088696311157297823662689037894645226208583) 2) (lm ((V4 a0 a1 a2 a3).toNat*(V4 b0 b1 b2 b3).toNat%21888242871839275222246405745257275088696311157297823662689037894645226208583) 3)
  unfold ag4 at this
  refine this.mpr ?_
  clear this
  rintro _ rfl _ rfl _ rfl _ rfl _ rfl _ rfl _ rfl _ rfl
  refine ⟨⟨⟨ha,hb,wdq0,wdq1,wdq2,wdq3⟩,by decide⟩,?_⟩
  rintro _ rfl _ rfl _ rfl _ rfl
  rfl
 ·cases h
def cMl:Rd Tryz.prog:=mkR mixed 43 Tryz.func43 (by decide) (by kernel_rfl) [] [.num,.num] rMl ml_ok
def mulC (a0 a1 a2 a3 b0 b1 b2 b3:Int) (K:Int→Int→Int→Int→Prop):Prop:=∃x y,(Ws a0 a1 a2 a3 x∧El b0 b1 b2 b3 y)∧∀r,r=mmul x y→∀y0 y1 y2 y3,El y0 y1 y2 y3 r→K y0 y1 y2 y3
theorem mulC_mono {a0 a1 a2 a3 b0 b1 b2 b3:Int} {K K':Int→Int→Int→Int→Prop} (hk:∀a b c d,K a b c d→K' a b c d) (h:mulC a0 a1 a2 a3 b0 b1 b2 b3 K):mulC a0 a1 a2 a3 b0 b1 b2 b3 K':=by
 obtain ⟨x,y,h1,h2⟩:=h
 exact ⟨x,y,h1,fun r hr y0 y1 y2 y3 hy=>hk _ _ _ _ (h2 r hr y0 y1 y2 y3 hy)⟩
theorem mulC_live {a0 a1 a2 a3 b0 b1 b2 b3:Int} {K:Int→Int→Int→Int→Prop} (h:mulC a0 a1 a2 a3 b0 b1 b2 b3 K):∃a b c d,K a b c d:=by
 obtain ⟨x,y,h1,h2⟩:=h
 exact ⟨_,_,_,_,h2 _ rfl _ _ _ _ (El.of (mmul_lt _ _))⟩
theorem mulC_of {a0 a1 a2 a3 b0 b1 b2 b3:Int} {K:Int→Int→Int→Int→Prop} (h:mulC a0 a1 a2 a3 b0 b1 b2 b3 K):MulP a0 a1 a2 a3 b0 b1 b2 b3 K:=by
 obtain ⟨x,y,⟨h1,h2⟩,h3⟩:=h
 exact MulP.of h1 h2 fun r hr=>h3 r hr _ _ _ _ (El.of (by rw[hr];exact mmul_lt _ _))
def addC (a0 a1 a2 a3 b0 b1 b2 b3:Int) (K:Int→Int→Int→Int→Prop):Prop:=∃x y,(El a0 a1 a2 a3 x∧El b0 b1 b2 b3 y)∧∀r,r=(x+y)%qN→∀y0 y1 y2 y3,El y0 y1 y2 y3 r→K y0 y1 y2 y3
theorem addC_mono {a0 a1 a2 a3 b0 b1 b2 b3:Int} {K K':Int→Int→Int→Int→Prop} (hk:∀a b c d,K a b c d→K' a b c d) (h:addC a0 a1 a2 a3 b0 b1 b2 b3 K):addC a0 a1 a2 a3 b0 b1 b2 b3 K':=by
 obtain ⟨x,y,h1,h2⟩:=h
 exact ⟨x,y,h1,fun r hr y0 y1 y2 y3 hy=>hk _ _ _ _ (h2 r hr y0 y1 y2 y3 hy)⟩
theorem addC_live {a0 a1 a2 a3 b0 b1 b2 b3:Int} {K:Int→Int→Int→Int→Prop} (h:addC a0 a1 a2 a3 b0 b1 b2 b3 K):∃a b c d,K a b c d:=by
 obtain ⟨x,y,h1,h2⟩:=h
 exact ⟨_,_,_,_,h2 _ rfl _ _ _ _ (El.of (Nat.mod_lt _ (by decide)))⟩
theorem addC_of {a0 a1 a2 a3 b0 b1 b2 b3:Int} {K:Int→Int→Int→Int→Prop} (h:addC a0 a1 a2 a3 b0 b1 b2 b3 K):AddP a0 a1 a2 a3 b0 b1 b2 b3 K:=by
 obtain ⟨x,y,⟨h1,h2⟩,h3⟩:=h
 exact AddP.of h1 h2 fun r hr=>h3 r hr _ _ _ _ (El.of (by rw[hr];exact Nat.mod_lt _ (by decide)))
def SubP (a0 a1 a2 a3 b0 b1 b2 b3:Int) (K:Int→Int→Int→Int→Prop):Prop:=
 SubS a0 b0 0 fun s0 k0=>SubS a1 b1 k0 fun s1 k1=>SubS a2 b2 k1 fun s2 k2=>SubS a3 b3 k2 fun s3 k3=>
  ((k3 !=0)=true→AddS s0 4332616871279656263 0 fun t0 j0=>AddS s1 10917124144477883021 j0 fun t1 j1=>AddS s2 13281191951274694749 j1 fun t2 j2=>AddS s3 3486998266802970665 j2 fun t3 _=>K t0 t1 t2 t3)∧
  ((k3 !=0)=false→K s0 s1 s2 s3)
theorem subp_eq {a0 a1 a2 a3 b0 b1 b2 b3 s0 s1 s2 s3 k0 k1 k2 k3:Int} (e0:s0=a0-b0-0+k0*18446744073709551616) (e1:s1=a1-b1-k0+k1*18446744073709551616)
  (e2:s2=a2-b2-k1+k2*18446744073709551616) (e3:s3=a3-b3-k2+k3*18446744073709551616):V4 s0 s1 s2 s3=V4 a0 a1 a2 a3-V4 b0 b1 b2 b3+k3*115792089237316195423570985008687907853269984665640564039457584007913129639936:=by
 unfold V4
 omega
def subN (x y:Nat):Nat:=(x+(qN-y))%qN
theorem sub_fin {x y:Nat} {s0 s1 s2 s3 k3 t0 t1 t2 t3 j3:Int} (hx:x<qN) (hy:y<qN) (ws:Wd s0∧Wd s1∧Wd s2∧Wd s3) (hk0:0≤k3) (hk1:k3≤1)
  (e:V4 s0 s1 s2 s3=(x:Int)-y+k3*115792089237316195423570985008687907853269984665640564039457584007913129639936):
  (k3=0→V4 s0 s1 s2 s3=((subN x y:Nat):Int))∧
  (k3≠0→(Wd t0∧Wd t1∧Wd t2∧Wd t3)→V4 t0 t1 t2 t3+j3*115792089237316195423570985008687907853269984665640564039457584007913129639936=V4 s0 s1 s2 s3+21888242871839275222246405745257275088696311157297823662689037894645226208583→0≤j3→j3≤1→V4 t0 t1 t2 t3=((subN x y:Nat):Int)):=by
 obtain ⟨w0,w1,w2,w3⟩:=ws
 have n0:=V4_nonneg w0 w1 w2 w3
 have n1:=V4_lt w0 w1 w2 w3
 unfold subN
 constructor
 ·intro h
  have:(x+(qN-y))%qN=x-y:=by
   rw[show x+(qN-y)=(x-y)+qN by omega,Nat.add_mod_right,Nat.mod_eq_of_lt (by omega)]
  rw[this]
  unfold qN at *
  omega
 ·rintro h ⟨v0,v1,v2,v3⟩ et l0 l1
  have m0:=V4_nonneg v0 v1 v2 v3
  have m1:=V4_lt v0 v1 v2 v3
  have hk:k3=1:=by omega
  subst hk
  have hxy:x<y:=by omega
  have:(x+(qN-y))%qN=x+(qN-y):=Nat.mod_eq_of_lt (by omega)
  rw[this]
  unfold qN at *
  omega
theorem SubP.of {a0 a1 a2 a3 b0 b1 b2 b3:Int} {x y:Nat} {K:Int→Int→Int→Int→Prop} (hx:El a0 a1 a2 a3 x) (hy:El b0 b1 b2 b3 y) (hK:∀r,r=subN x y→K (lm r 0) (lm r 1) (lm r 2) (lm r 3)):SubP a0 a1 a2 a3 b0 b1 b2 b3 K:=by
 obtain ⟨ha0,ha1,ha2,ha3⟩:=hx.wd
 obtain ⟨hb0,hb1,hb2,hb3⟩:=hy.wd
 refine SubS.of ha0 hb0 (Int.le_refl _) (by decide) fun s0 k0 c0 c1 c2 c3=> ?_
 refine SubS.of ha1 hb1 c1 c2 fun s1 k1 d0 d1 d2 d3=> ?_
 refine SubS.of ha2 hb2 d1 d2 fun s2 k2 e0 e1 e2 e3=> ?_
 refine SubS.of ha3 hb3 e1 e2 fun s3 k3 f0 f1 f2 f3=> ?_
 have e:=subp_eq c3 d3 e3 f3
 rw[hx.val,hy.val]at e
 have fin:=fun t0 t1 t2 t3 j3=>sub_fin (t0:=t0) (t1:=t1) (t2:=t2) (t3:=t3) (j3:=j3) hx.lt hy.lt ⟨c0,d0,e0,f0⟩ f1 f2 e
 have done:∀z0 z1 z2 z3:Int,Wd z0→Wd z1→Wd z2→Wd z3→V4 z0 z1 z2 z3=((subN x y:Nat):Int)→K z0 z1 z2 z3:=fun z0 z1 z2 z3 w0 w1 w2 w3 hz=>by
  obtain ⟨q0,q1,q2,q3⟩:=lm_of w0 w1 w2 w3 hz
  rw[q0,q1,q2,q3]
  exact hK _ rfl
 refine ⟨fun h=> ?_,fun h=> ?_⟩
 ·have hk:k3≠0:=by simpa using h
  refine AddS.of c0 wdq0 (Int.le_refl _) (by decide) fun t0 j0 g0 g1 g2 g3=> ?_
  refine AddS.of d0 wdq1 g1 g2 fun t1 j1 h0 h1 h2 h3=> ?_
  refine AddS.of e0 wdq2 h1 h2 fun t2 j2 i0 i1 i2 i3=> ?_
  refine AddS.of f0 wdq3 i1 i2 fun t3 j3 l0 l1 l2 l3=> ?_
  exact done _ _ _ _ g0 h0 i0 l0 ((fin t0 t1 t2 t3 j3).2 hk ⟨g0,h0,i0,l0⟩ (addp_eq g3 h3 i3 l3) l1 l2)
 ·have hk:k3=0:=by simpa using h
  exact done _ _ _ _ c0 d0 e0 f0 ((fin 0 0 0 0 0).1 hk)
def subC (a0 a1 a2 a3 b0 b1 b2 b3:Int) (K:Int→Int→Int→Int→Prop):Prop:=∃x y,(El a0 a1 a2 a3 x∧El b0 b1 b2 b3 y)∧∀r,r=subN x y→∀y0 y1 y2 y3,El y0 y1 y2 y3 r→K y0 y1 y2 y3
theorem subC_mono {a0 a1 a2 a3 b0 b1 b2 b3:Int} {K K':Int→Int→Int→Int→Prop} (hk:∀a b c d,K a b c d→K' a b c d) (h:subC a0 a1 a2 a3 b0 b1 b2 b3 K):subC a0 a1 a2 a3 b0 b1 b2 b3 K':=by
 obtain ⟨x,y,h1,h2⟩:=h
 exact ⟨x,y,h1,fun r hr y0 y1 y2 y3 hy=>hk _ _ _ _ (h2 r hr y0 y1 y2 y3 hy)⟩
theorem subC_live {a0 a1 a2 a3 b0 b1 b2 b3:Int} {K:Int→Int→Int→Int→Prop} (h:subC a0 a1 a2 a3 b0 b1 b2 b3 K):∃a b c d,K a b c d:=by
 obtain ⟨x,y,h1,h2⟩:=h
 exact ⟨_,_,_,_,h2 _ rfl _ _ _ _ (El.of (Nat.mod_lt _ (by decide)))⟩
theorem subC_of {a0 a1 a2 a3 b0 b1 b2 b3:Int} {K:Int→Int→Int→Int→Prop} (h:subC a0 a1 a2 a3 b0 b1 b2 b3 K):SubP a0 a1 a2 a3 b0 b1 b2 b3 K:=by
 obtain ⟨x,y,⟨h1,h2⟩,h3⟩:=h
 exact SubP.of h1 h2 fun r hr=>h3 r hr _ _ _ _ (El.of (by rw[hr];exact Nat.mod_lt _ (by decide)))
theorem vc_MulA0 (z0 z1 z2 z3 a0 a1 a2 a3 b0 b1 b2 b3:Int) (K:SV→Mem→Prop):execF cxMul u0 Tryz.f75 64 [.ptr 1 (.lit 0),.ptr 9 (.lit 0),.ptr 17 (.lit 0)] (memL [(1,⟨false,w4 z0 z1 z2 z3⟩),(9,⟨true,w4 a0 a1 a2 a3⟩),(17,
 ⟨true,w4 b0 b1 b2 b3⟩)]) K=(MulP a0 a1 a2 a3 b0 b1 b2 b3 fun a b c d=>K (.ptr 1 (.lit 0)) (memL [(1,⟨false,w4 a b c d⟩),(9,⟨true,w4 a0 a1 a2 a3⟩),(17,⟨true,w4 b0 b1 b2 b3⟩)])):=by kernel_rfl
theorem vc_MulA1 (z0 z1 z2 z3 a0 a1 a2 a3:Int) (K:SV→Mem→Prop):execF cxMul u0 Tryz.f75 64 [.ptr 1 (.lit 0),.ptr 1 (.lit 0),.ptr 9 (.lit 0)] (memL [(1,⟨false,w4 z0 z1 z2 z3⟩),(9,⟨true,w4 a0 a1 a2 a3⟩)]) K=(MulP z0 z1 z2 z3
 a0 a1 a2 a3 fun a b c d=>K (.ptr 1 (.lit 0)) (memL [(1,⟨false,w4 a b c d⟩),(9,⟨true,w4 a0 a1 a2 a3⟩)])):=by kernel_rfl
theorem vc_MulA2 (z0 z1 z2 z3 a0 a1 a2 a3:Int) (K:SV→Mem→Prop):execF cxMul u0 Tryz.f75 64 [.ptr 1 (.lit 0),.ptr 9 (.lit 0),.ptr 1 (.lit 0)] (memL [(1,⟨false,w4 z0 z1 z2 z3⟩),(9,⟨true,w4 a0 a1 a2 a3⟩)]) K=(MulP a0 a1 a2 a3
 z0 z1 z2 z3 fun a b c d=>K (.ptr 1 (.lit 0)) (memL [(1,⟨false,w4 a b c d⟩),(9,⟨true,w4 a0 a1 a2 a3⟩)])):=by kernel_rfl
theorem vc_MulA3 (z0 z1 z2 z3 a0 a1 a2 a3:Int) (K:SV→Mem→Prop):execF cxMul u0 Tryz.f75 64 [.ptr 1 (.lit 0),.ptr 9 (.lit 0),.ptr 9 (.lit 0)] (memL [(1,⟨false,w4 z0 z1 z2 z3⟩),(9,⟨true,w4 a0 a1 a2 a3⟩)]) K=(MulP a0 a1 a2 a3
 a0 a1 a2 a3 fun a b c d=>K (.ptr 1 (.lit 0)) (memL [(1,⟨false,w4 a b c d⟩),(9,⟨true,w4 a0 a1 a2 a3⟩)])):=by kernel_rfl
def gMulA:G0:=fun args l K=>
 match args,l with
 | [.ptr 1 (.lit 0),.ptr 9 (.lit 0),.ptr 17 (.lit 0)],[(1,⟨false,.cells [.int .u64 (.sym z0),.int .u64 (.sym z1),.int .u64 (.sym z2),.int .u64 (.sym z3)]⟩),(9,⟨true,.cells [.int .u64 (.sym a0),.int .u64 (.sym a1),.int .u64 (.sym a2),.int .u64 (.sym a3)]⟩),(17,⟨true,.cells [.int .u64 (.sym b0),.int .u64 (.sym b1),.int .u64 (.sym b2),.int .u64 (.sym b3)]⟩)]=>mulC a0 a1 a2 a3 b0 b1 b2 b3 fun y0 y1 y2 y3=>K (.ptr 1 (.lit 0)) (memL [(1,⟨false,w4 y0 y1 y2 y3⟩),(9,⟨true,w4 a0 a1 a2 a3⟩),(17,⟨true,w4 b0 b1 b2 b3⟩)])
 | [.ptr 1 (.lit 0),.ptr 1 (.lit 0),.ptr 9 (.lit 0)],[(1,⟨false,.cells [.int .u64 (.sym z0),.int .u64 (.sym z1),.int .u64 (.sym z2),.int .u64 (.sym z3)]⟩),(9,⟨true,.cells [.int .u64 (.sym a0),.int .u64 (.sym a1),.int .u64 (.sym a2),.int .u64 (.sym a3)]⟩)]=>mulC z0 z1 z2 z3 a0 a1 a2 a3 fun y0 y1 y2 y3=>K (.ptr 1 (.lit 0)) (memL [(1,⟨false,w4 y0 y1 y2 y3⟩),(9,⟨true,w4 a0 a1 a2 a3⟩)])
 | [.ptr 1 (.lit 0),.ptr 9 (.lit 0),.ptr 1 (.lit 0)],[(1,⟨false,.cells [.int .u64 (.sym z0),.int .u64 (.sym z1),.int .u64 (.sym z2),.int .u64 (.sym z3)]⟩),(9,⟨true,.cells [.int .u64 (.sym a0),.int .u64 (.sym a1),.int .u64 (.sym a2),.int .u64 (.sym a3)]⟩)]=>mulC a0 a1 a2 a3 z0 z1 z2 z3 fun y0 y1 y2 y3=>K (.ptr 1 (.lit 0)) (memL [(1,⟨false,w4 y0 y1 y2 y3⟩),(9,⟨true,w4 a0 a1 a2 a3⟩)])
 | [.ptr 1 (.lit 0),.ptr 9 (.lit 0),.ptr 9 (.lit 0)],[(1,⟨false,.cells [.int .u64 (.sym z0),.int .u64 (.sym z1),.int .u64 (.sym z2),.int .u64 (.sym z3)]⟩),(9,⟨true,.cells [.int .u64 (.sym a0),.int .u64 (.sym a1),.int .u64 (.sym a2),.int .u64 (.sym a3)]⟩)]=>mulC a0 a1 a2 a3 a0 a1 a2 a3 fun y0 y1 y2 y3=>K (.ptr 1 (.lit 0)) (memL [(1,⟨false,w4 y0 y1 y2 y3⟩),(9,⟨true,w4 a0 a1 a2 a3⟩)])
 | _,_=>False
theorem MulA_good:Good gMulA:=by
 constructor
 ·intro args l K K' hk h
  unfold gMulA at h ⊢
  split at h
  ·exact mulC_mono (fun _ _ _ _=>hk _ _) h
  ·exact mulC_mono (fun _ _ _ _=>hk _ _) h
  ·exact mulC_mono (fun _ _ _ _=>hk _ _) h
  ·exact mulC_mono (fun _ _ _ _=>hk _ _) h
  ·exact h.elim
 ·intro args l K h
  unfold gMulA at h
  split at h
  ·obtain ⟨_,_,_,_,h⟩:=mulC_live h
   exact ⟨_,_,h⟩
  ·obtain ⟨_,_,_,_,h⟩:=mulC_live h
   exact ⟨_,_,h⟩
  ·obtain ⟨_,_,_,_,h⟩:=mulC_live h
   exact ⟨_,_,h⟩
  ·obtain ⟨_,_,_,_,h⟩:=mulC_live h
   exact ⟨_,_,h⟩
  ·exact h.elim
theorem MulA_ok (args:List SV) (l:List (Nat×Reg)) (K:SV→Mem→Prop) (hK:KUp K) (h:gMulA args l K):∃U,execF cxMul U Tryz.f75 64 args (memL l) K:=by
 unfold gMulA at h
 split at h
 ·rename_i z0 z1 z2 z3 a0 a1 a2 a3 b0 b1 b2 b3
  refine ⟨u0,?_⟩
  have:=vc_MulA0 z0 z1 z2 z3 a0 a1 a2 a3 b0 b1 b2 b3 K
  unfold w4 at this
  rw[this]
  exact mulC_of h
 ·rename_i z0 z1 z2 z3 a0 a1 a2 a3
  refine ⟨u0,?_⟩
  have:=vc_MulA1 z0 z1 z2 z3 a0 a1 a2 a3 K
  unfold w4 at this
  rw[this]
  exact mulC_of h
 ·rename_i z0 z1 z2 z3 a0 a1 a2 a3
  refine ⟨u0,?_⟩
  have:=vc_MulA2 z0 z1 z2 z3 a0 a1 a2 a3 K
  unfold w4 at this
  rw[this]
  exact mulC_of h
 ·rename_i z0 z1 z2 z3 a0 a1 a2 a3
  refine ⟨u0,?_⟩
  have:=vc_MulA3 z0 z1 z2 z3 a0 a1 a2 a3 K
  unfold w4 at this
  rw[this]
  exact mulC_of h
 ·exact h.elim
def kMulA:Ef Tryz.prog:=mkE mixed 75 Tryz.func75 (by decide) (by kernel_rfl) [] [.ptr 4 false,.ptr 4 true,.ptr 4 true] gMulA MulA_good MulA_ok
theorem vc_Sqr0 (z0 z1 z2 z3 a0 a1 a2 a3:Int) (K:SV→Mem→Prop):execF cxMul u0 Tryz.f72 64 [.ptr 1 (.lit 0),.ptr 9 (.lit 0)] (memL [(1,⟨false,w4 z0 z1 z2 z3⟩),(9,⟨true,w4 a0 a1 a2 a3⟩)]) K=(MulP a0 a1 a2 a3 a0 a1 a2 a3 fun a
 b c d=>K (.ptr 1 (.lit 0)) (memL [(1,⟨false,w4 a b c d⟩),(9,⟨true,w4 a0 a1 a2 a3⟩)])):=by kernel_rfl
theorem vc_Sqr1 (z0 z1 z2 z3:Int) (K:SV→Mem→Prop):execF cxMul u0 Tryz.f72 64 [.ptr 1 (.lit 0),.ptr 1 (.lit 0)] (memL [(1,⟨false,w4 z0 z1 z2 z3⟩)]) K=(MulP z0 z1 z2 z3 z0 z1 z2 z3 fun a b c d=>K (.ptr 1 (.lit 0)) (memL [(1,
 ⟨false,w4 a b c d⟩)])):=by kernel_rfl
def gSqr:G0:=fun args l K=>
 match args,l with
 | [.ptr 1 (.lit 0),.ptr 9 (.lit 0)],[(1,⟨false,.cells [.int .u64 (.sym z0),.int .u64 (.sym z1),.int .u64 (.sym z2),.int .u64 (.sym z3)]⟩),(9,⟨true,.cells [.int .u64 (.sym a0),.int .u64 (.sym a1),.int .u64 (.sym a2),.int .u64 (.sym a3)]⟩)]=>mulC a0 a1 a2 a3 a0 a1 a2 a3 fun y0 y1 y2 y3=>K (.ptr 1 (.lit 0)) (memL [(1,⟨false,w4 y0 y1 y2 y3⟩),(9,⟨true,w4 a0 a1 a2 a3⟩)])
 | [.ptr 1 (.lit 0),.ptr 1 (.lit 0)],[(1,⟨false,.cells [.int .u64 (.sym z0),.int .u64 (.sym z1),.int .u64 (.sym z2),.int .u64 (.sym z3)]⟩)]=>mulC z0 z1 z2 z3 z0 z1 z2 z3 fun y0 y1 y2 y3=>K (.ptr 1 (.lit 0)) (memL [(1,⟨false,w4 y0 y1 y2 y3⟩)])
 | _,_=>False
theorem Sqr_good:Good gSqr:=by
 constructor
 ·intro args l K K' hk h
  unfold gSqr at h ⊢
  split at h
  ·exact mulC_mono (fun _ _ _ _=>hk _ _) h
  ·exact mulC_mono (fun _ _ _ _=>hk _ _) h
  ·exact h.elim
 ·intro args l K h
  unfold gSqr at h
  split at h
  ·obtain ⟨_,_,_,_,h⟩:=mulC_live h
   exact ⟨_,_,h⟩
  ·obtain ⟨_,_,_,_,h⟩:=mulC_live h
   exact ⟨_,_,h⟩
  ·exact h.elim
theorem Sqr_ok (args:List SV) (l:List (Nat×Reg)) (K:SV→Mem→Prop) (hK:KUp K) (h:gSqr args l K):∃U,execF cxMul U Tryz.f72 64 args (memL l) K:=by
 unfold gSqr at h
 split at h
 ·rename_i z0 z1 z2 z3 a0 a1 a2 a3
  refine ⟨u0,?_⟩
  have:=vc_Sqr0 z0 z1 z2 z3 a0 a1 a2 a3 K
  unfold w4 at this
  rw[this]
  exact mulC_of h
 ·rename_i z0 z1 z2 z3
  refine ⟨u0,?_⟩
  have:=vc_Sqr1 z0 z1 z2 z3 K
  unfold w4 at this
  rw[this]
  exact mulC_of h
 ·exact h.elim
def kSqr:Ef Tryz.prog:=mkE mixed 72 Tryz.func72 (by decide) (by kernel_rfl) [] [.ptr 4 false,.ptr 4 true] gSqr Sqr_good Sqr_ok
theorem vc_AddA0 (z0 z1 z2 z3 a0 a1 a2 a3 b0 b1 b2 b3:Int) (K:SV→Mem→Prop):execF cxAdd u0 Tryz.f73 64 [.ptr 1 (.lit 0),.ptr 9 (.lit 0),.ptr 17 (.lit 0)] (memL [(1,⟨false,w4 z0 z1 z2 z3⟩),(9,⟨true,w4 a0 a1 a2 a3⟩),(17,
 ⟨true,w4 b0 b1 b2 b3⟩)]) K=(AddP a0 a1 a2 a3 b0 b1 b2 b3 fun a b c d=>K (.ptr 1 (.lit 0)) (memL [(1,⟨false,w4 a b c d⟩),(9,⟨true,w4 a0 a1 a2 a3⟩),(17,⟨true,w4 b0 b1 b2 b3⟩)])):=by kernel_rfl
theorem vc_AddA1 (z0 z1 z2 z3 a0 a1 a2 a3:Int) (K:SV→Mem→Prop):execF cxAdd u0 Tryz.f73 64 [.ptr 1 (.lit 0),.ptr 1 (.lit 0),.ptr 9 (.lit 0)] (memL [(1,⟨false,w4 z0 z1 z2 z3⟩),(9,⟨true,w4 a0 a1 a2 a3⟩)]) K=(AddP z0 z1 z2 z3
 a0 a1 a2 a3 fun a b c d=>K (.ptr 1 (.lit 0)) (memL [(1,⟨false,w4 a b c d⟩),(9,⟨true,w4 a0 a1 a2 a3⟩)])):=by kernel_rfl
theorem vc_AddA2 (z0 z1 z2 z3 a0 a1 a2 a3:Int) (K:SV→Mem→Prop):execF cxAdd u0 Tryz.f73 64 [.ptr 1 (.lit 0),.ptr 9 (.lit 0),.ptr 1 (.lit 0)] (memL [(1,⟨false,w4 z0 z1 z2 z3⟩),(9,⟨true,w4 a0 a1 a2 a3⟩)]) K=(AddP a0 a1 a2 a3
 z0 z1 z2 z3 fun a b c d=>K (.ptr 1 (.lit 0)) (memL [(1,⟨false,w4 a b c d⟩),(9,⟨true,w4 a0 a1 a2 a3⟩)])):=by kernel_rfl
theorem vc_AddA3 (z0 z1 z2 z3 a0 a1 a2 a3:Int) (K:SV→Mem→Prop):execF cxAdd u0 Tryz.f73 64 [.ptr 1 (.lit 0),.ptr 9 (.lit 0),.ptr 9 (.lit 0)] (memL [(1,⟨false,w4 z0 z1 z2 z3⟩),(9,⟨true,w4 a0 a1 a2 a3⟩)]) K=(AddP a0 a1 a2 a3
 a0 a1 a2 a3 fun a b c d=>K (.ptr 1 (.lit 0)) (memL [(1,⟨false,w4 a b c d⟩),(9,⟨true,w4 a0 a1 a2 a3⟩)])):=by kernel_rfl
def gAddA:G0:=fun args l K=>
 match args,l with
 | [.ptr 1 (.lit 0),.ptr 9 (.lit 0),.ptr 17 (.lit 0)],[(1,⟨false,.cells [.int .u64 (.sym z0),.int .u64 (.sym z1),.int .u64 (.sym z2),.int .u64 (.sym z3)]⟩),(9,⟨true,.cells [.int .u64 (.sym a0),.int .u64 (.sym a1),.int .u64 (.sym a2),.int .u64 (.sym a3)]⟩),(17,⟨true,.cells [.int .u64 (.sym b0),.int .u64 (.sym b1),.int .u64 (.sym b2),.int .u64 (.sym b3)]⟩)]=>addC a0 a1 a2 a3 b0 b1 b2 b3 fun y0 y1 y2 y3=>K (.ptr 1 (.lit 0)) (memL [(1,⟨false,w4 y0 y1 y2 y3⟩),(9,⟨true,w4 a0 a1 a2 a3⟩),(17,⟨true,w4 b0 b1 b2 b3⟩)])
 | [.ptr 1 (.lit 0),.ptr 1 (.lit 0),.ptr 9 (.lit 0)],[(1,⟨false,.cells [.int .u64 (.sym z0),.int .u64 (.sym z1),.int .u64 (.sym z2),.int .u64 (.sym z3)]⟩),(9,⟨true,.cells [.int .u64 (.sym a0),.int .u64 (.sym a1),.int .u64 (.sym a2),.int .u64 (.sym a3)]⟩)]=>addC z0 z1 z2 z3 a0 a1 a2 a3 fun y0 y1 y2 y3=>K (.ptr 1 (.lit 0)) (memL [(1,⟨false,w4 y0 y1 y2 y3⟩),(9,⟨true,w4 a0 a1 a2 a3⟩)])
 | [.ptr 1 (.lit 0),.ptr 9 (.lit 0),.ptr 1 (.lit 0)],[(1,⟨false,.cells [.int .u64 (.sym z0),.int .u64 (.sym z1),.int .u64 (.sym z2),.int .u64 (.sym z3)]⟩),(9,⟨true,.cells [.int .u64 (.sym a0),.int .u64 (.sym a1),.int .u64 (.sym a2),.int .u64 (.sym a3)]⟩)]=>addC a0 a1 a2 a3 z0 z1 z2 z3 fun y0 y1 y2 y3=>K (.ptr 1 (.lit 0)) (memL [(1,⟨false,w4 y0 y1 y2 y3⟩),(9,⟨true,w4 a0 a1 a2 a3⟩)])
 | [.ptr 1 (.lit 0),.ptr 9 (.lit 0),.ptr 9 (.lit 0)],[(1,⟨false,.cells [.int .u64 (.sym z0),.int .u64 (.sym z1),.int .u64 (.sym z2),.int .u64 (.sym z3)]⟩),(9,⟨true,.cells [.int .u64 (.sym a0),.int .u64 (.sym a1),.int .u64 (.sym a2),.int .u64 (.sym a3)]⟩)]=>addC a0 a1 a2 a3 a0 a1 a2 a3 fun y0 y1 y2 y3=>K (.ptr 1 (.lit 0)) (memL [(1,⟨false,w4 y0 y1 y2 y3⟩),(9,⟨true,w4 a0 a1 a2 a3⟩)])
 | _,_=>False
theorem AddA_good:Good gAddA:=by
 constructor
 ·intro args l K K' hk h
  unfold gAddA at h ⊢
  split at h
  ·exact addC_mono (fun _ _ _ _=>hk _ _) h
  ·exact addC_mono (fun _ _ _ _=>hk _ _) h
  ·exact addC_mono (fun _ _ _ _=>hk _ _) h
  ·exact addC_mono (fun _ _ _ _=>hk _ _) h
  ·exact h.elim
 ·intro args l K h
  unfold gAddA at h
  split at h
  ·obtain ⟨_,_,_,_,h⟩:=addC_live h
   exact ⟨_,_,h⟩
  ·obtain ⟨_,_,_,_,h⟩:=addC_live h
   exact ⟨_,_,h⟩
  ·obtain ⟨_,_,_,_,h⟩:=addC_live h
   exact ⟨_,_,h⟩
  ·obtain ⟨_,_,_,_,h⟩:=addC_live h
   exact ⟨_,_,h⟩
  ·exact h.elim
theorem AddA_ok (args:List SV) (l:List (Nat×Reg)) (K:SV→Mem→Prop) (hK:KUp K) (h:gAddA args l K):∃U,execF cxAdd U Tryz.f73 64 args (memL l) K:=by
 unfold gAddA at h
 split at h
 ·rename_i z0 z1 z2 z3 a0 a1 a2 a3 b0 b1 b2 b3
  refine ⟨u0,?_⟩
  have:=vc_AddA0 z0 z1 z2 z3 a0 a1 a2 a3 b0 b1 b2 b3 K
  unfold w4 at this
  rw[this]
  exact addC_of h
 ·rename_i z0 z1 z2 z3 a0 a1 a2 a3
  refine ⟨u0,?_⟩
  have:=vc_AddA1 z0 z1 z2 z3 a0 a1 a2 a3 K
  unfold w4 at this
  rw[this]
  exact addC_of h
 ·rename_i z0 z1 z2 z3 a0 a1 a2 a3
  refine ⟨u0,?_⟩
  have:=vc_AddA2 z0 z1 z2 z3 a0 a1 a2 a3 K
  unfold w4 at this
  rw[this]
  exact addC_of h
 ·rename_i z0 z1 z2 z3 a0 a1 a2 a3
  refine ⟨u0,?_⟩
  have:=vc_AddA3 z0 z1 z2 z3 a0 a1 a2 a3 K
  unfold w4 at this
  rw[this]
  exact addC_of h
 ·exact h.elim
def kAddA:Ef Tryz.prog:=mkE mixed 73 Tryz.func73 (by decide) (by kernel_rfl) [] [.ptr 4 false,.ptr 4 true,.ptr 4 true] gAddA AddA_good AddA_ok
theorem vc_SubA0 (z0 z1 z2 z3 a0 a1 a2 a3 b0 b1 b2 b3:Int) (K:SV→Mem→Prop):execF cxAdd u0 Tryz.f102 64 [.ptr 1 (.lit 0),.ptr 9 (.lit 0),.ptr 17 (.lit 0)] (memL [(1,⟨false,w4 z0 z1 z2 z3⟩),(9,⟨true,w4 a0 a1 a2 a3⟩),(17,
 ⟨true,w4 b0 b1 b2 b3⟩)]) K=(SubP a0 a1 a2 a3 b0 b1 b2 b3 fun a b c d=>K (.ptr 1 (.lit 0)) (memL [(1,⟨false,w4 a b c d⟩),(9,⟨true,w4 a0 a1 a2 a3⟩),(17,⟨true,w4 b0 b1 b2 b3⟩)])):=by kernel_rfl
theorem vc_SubA1 (z0 z1 z2 z3 a0 a1 a2 a3:Int) (K:SV→Mem→Prop):execF cxAdd u0 Tryz.f102 64 [.ptr 1 (.lit 0),.ptr 1 (.lit 0),.ptr 9 (.lit 0)] (memL [(1,⟨false,w4 z0 z1 z2 z3⟩),(9,⟨true,w4 a0 a1 a2 a3⟩)]) K=(SubP z0 z1 z2 z3
 a0 a1 a2 a3 fun a b c d=>K (.ptr 1 (.lit 0)) (memL [(1,⟨false,w4 a b c d⟩),(9,⟨true,w4 a0 a1 a2 a3⟩)])):=by kernel_rfl
theorem vc_SubA2 (z0 z1 z2 z3 a0 a1 a2 a3:Int) (K:SV→Mem→Prop):execF cxAdd u0 Tryz.f102 64 [.ptr 1 (.lit 0),.ptr 9 (.lit 0),.ptr 1 (.lit 0)] (memL [(1,⟨false,w4 z0 z1 z2 z3⟩),(9,⟨true,w4 a0 a1 a2 a3⟩)]) K=(SubP a0 a1 a2 a3
 z0 z1 z2 z3 fun a b c d=>K (.ptr 1 (.lit 0)) (memL [(1,⟨false,w4 a b c d⟩),(9,⟨true,w4 a0 a1 a2 a3⟩)])):=by kernel_rfl
def gSubA:G0:=fun args l K=>
 match args,l with
 | [.ptr 1 (.lit 0),.ptr 9 (.lit 0),.ptr 17 (.lit 0)],[(1,⟨false,.cells [.int .u64 (.sym z0),.int .u64 (.sym z1),.int .u64 (.sym z2),.int .u64 (.sym z3)]⟩),(9,⟨true,.cells [.int .u64 (.sym a0),.int .u64 (.sym a1),.int .u64 (.sym a2),.int .u64 (.sym a3)]⟩),(17,⟨true,.cells [.int .u64 (.sym b0),.int .u64 (.sym b1),.int .u64 (.sym b2),.int .u64 (.sym b3)]⟩)]=>subC a0 a1 a2 a3 b0 b1 b2 b3 fun y0 y1 y2 y3=>K (.ptr 1 (.lit 0)) (memL [(1,⟨false,w4 y0 y1 y2 y3⟩),(9,⟨true,w4 a0 a1 a2 a3⟩),(17,⟨true,w4 b0 b1 b2 b3⟩)])
 | [.ptr 1 (.lit 0),.ptr 1 (.lit 0),.ptr 9 (.lit 0)],[(1,⟨false,.cells [.int .u64 (.sym z0),.int .u64 (.sym z1),.int .u64 (.sym z2),.int .u64 (.sym z3)]⟩),(9,⟨true,.cells [.int .u64 (.sym a0),.int .u64 (.sym a1),.int .u64 (.sym a2),.int .u64 (.sym a3)]⟩)]=>subC z0 z1 z2 z3 a0 a1 a2 a3 fun y0 y1 y2 y3=>K (.ptr 1 (.lit 0)) (memL [(1,⟨false,w4 y0 y1 y2 y3⟩),(9,⟨true,w4 a0 a1 a2 a3⟩)])
 | [.ptr 1 (.lit 0),.ptr 9 (.lit 0),.ptr 1 (.lit 0)],[(1,⟨false,.cells [.int .u64 (.sym z0),.int .u64 (.sym z1),.int .u64 (.sym z2),.int .u64 (.sym z3)]⟩),(9,⟨true,.cells [.int .u64 (.sym a0),.int .u64 (.sym a1),.int .u64 (.sym a2),.int .u64 (.sym a3)]⟩)]=>subC a0 a1 a2 a3 z0 z1 z2 z3 fun y0 y1 y2 y3=>K (.ptr 1 (.lit 0)) (memL [(1,⟨false,w4 y0 y1 y2 y3⟩),(9,⟨true,w4 a0 a1 a2 a3⟩)])
 | _,_=>False
theorem SubA_good:Good gSubA:=by
 constructor
 ·intro args l K K' hk h
  unfold gSubA at h ⊢
  split at h
  ·exact subC_mono (fun _ _ _ _=>hk _ _) h
  ·exact subC_mono (fun _ _ _ _=>hk _ _) h
  ·exact subC_mono (fun _ _ _ _=>hk _ _) h
  ·exact h.elim
 ·intro args l K h
  unfold gSubA at h
  split at h
  ·obtain ⟨_,_,_,_,h⟩:=subC_live h
   exact ⟨_,_,h⟩
  ·obtain ⟨_,_,_,_,h⟩:=subC_live h
   exact ⟨_,_,h⟩
  ·obtain ⟨_,_,_,_,h⟩:=subC_live h
   exact ⟨_,_,h⟩
  ·exact h.elim
theorem SubA_ok (args:List SV) (l:List (Nat×Reg)) (K:SV→Mem→Prop) (hK:KUp K) (h:gSubA args l K):∃U,execF cxAdd U Tryz.f102 64 args (memL l) K:=by
 unfold gSubA at h
 split at h
 ·rename_i z0 z1 z2 z3 a0 a1 a2 a3 b0 b1 b2 b3
  refine ⟨u0,?_⟩
  have:=vc_SubA0 z0 z1 z2 z3 a0 a1 a2 a3 b0 b1 b2 b3 K
  unfold w4 at this
  rw[this]
  exact subC_of h
 ·rename_i z0 z1 z2 z3 a0 a1 a2 a3
  refine ⟨u0,?_⟩
  have:=vc_SubA1 z0 z1 z2 z3 a0 a1 a2 a3 K
  unfold w4 at this
  rw[this]
  exact subC_of h
 ·rename_i z0 z1 z2 z3 a0 a1 a2 a3
  refine ⟨u0,?_⟩
  have:=vc_SubA2 z0 z1 z2 z3 a0 a1 a2 a3 K
  unfold w4 at this
  rw[this]
  exact subC_of h
 ·exact h.elim
def kSubA:Ef Tryz.prog:=mkE mixed 102 Tryz.func102 (by decide) (by kernel_rfl) [] [.ptr 4 false,.ptr 4 true,.ptr 4 true] gSubA SubA_good SubA_ok
theorem bv64 {a:Int} (h:Wd a):(BitVec.ofInt IntKind.u64.bits a).toNat=a.toNat:=by
 unfold Wd at h
 simp only[IntKind.bits,BitVec.toNat_ofInt]
 omega
theorem bor_eq {a b:Int} (ha:Wd a) (hb:Wd b):bor .u64 a b=((a.toNat ||| b.toNat:Nat):Int)∧Wd (bor .u64 a b):=by
 have hl:a.toNat ||| b.toNat<2 ^ 64:=Nat.or_lt_two_pow (by unfold Wd at ha;omega) (by unfold Wd at hb;omega)
 have e:bor .u64 a b=((a.toNat ||| b.toNat:Nat):Int):=by
  unfold bor
  rw[BitVec.toNat_or,bv64 ha,bv64 hb,wu64,Int.emod_eq_of_lt (by omega) (by omega)]
 exact ⟨e,by rw[e];unfold Wd;omega⟩
theorem bxor_eq {a b:Int} (ha:Wd a) (hb:Wd b):bxor .u64 a b=((a.toNat ^^^ b.toNat:Nat):Int)∧Wd (bxor .u64 a b):=by
 have hl:a.toNat ^^^ b.toNat<2 ^ 64:=Nat.xor_lt_two_pow (by unfold Wd at ha;omega) (by unfold Wd at hb;omega)
 have e:bxor .u64 a b=((a.toNat ^^^ b.toNat:Nat):Int):=by
  unfold bxor
  rw[BitVec.toNat_xor,bv64 ha,bv64 hb,wu64,Int.emod_eq_of_lt (by omega) (by omega)]
 exact ⟨e,by rw[e];unfold Wd;omega⟩
theorem band_eq {a b:Int} (ha:Wd a) (hb:Wd b):band .u64 a b=((a.toNat &&& b.toNat:Nat):Int)∧Wd (band .u64 a b):=by
 have hl:a.toNat &&& b.toNat≤a.toNat:=Nat.and_le_left
 have ha':=ha
 unfold Wd at ha'
 have e:band .u64 a b=((a.toNat &&& b.toNat:Nat):Int):=by
  unfold band
  rw[BitVec.toNat_and,bv64 ha,bv64 hb,wu64,Int.emod_eq_of_lt (by omega) (by omega)]
 exact ⟨e,by rw[e];unfold Wd;omega⟩
theorem bor_zero {a b:Int} (ha:Wd a) (hb:Wd b):Wd (bor .u64 a b)∧(bor .u64 a b=0↔a=0∧b=0):=by
 obtain ⟨e,w⟩:=bor_eq ha hb
 refine ⟨w,?_⟩
 unfold Wd at ha hb
 rw[e]
 have:(a.toNat ||| b.toNat=0)↔a.toNat=0∧b.toNat=0:=Nat.or_eq_zero_iff
 omega
theorem xz {a b:Nat}:a ^^^ b=0↔a=b:=by
 constructor
 ·intro h
  apply Nat.eq_of_testBit_eq
  intro i
  have:=congrArg (fun x=>x.testBit i) h
  simp only[Nat.testBit_xor,Nat.zero_testBit]at this
  revert this
  cases a.testBit i<;>cases b.testBit i<;>simp
 ·rintro rfl
  exact Nat.xor_self a
theorem bxor_zeq {a b:Int} (ha:Wd a) (hb:Wd b):Wd (bxor .u64 a b)∧(bxor .u64 a b=0↔a=b):=by
 obtain ⟨e,w⟩:=bxor_eq ha hb
 refine ⟨w,?_⟩
 unfold Wd at ha hb
 rw[e]
 have:(a.toNat ^^^ b.toNat=0)↔a.toNat=b.toNat:=xz
 omega
theorem V4_zero {a b c d:Int} (ha:Wd a) (hb:Wd b) (hc:Wd c) (hd:Wd d):V4 a b c d=0↔a=0∧b=0∧c=0∧d=0:=by
 unfold V4 Wd at *
 omega
theorem V4_inj {a b c d a' b' c' d':Int} (ha:Wd a) (hb:Wd b) (hc:Wd c) (hd:Wd d) (ha':Wd a') (hb':Wd b') (hc':Wd c') (hd':Wd d'):V4 a b c d=V4 a' b' c' d'↔a=a'∧b=b'∧c=c'∧d=d':=by
 unfold V4 Wd at *
 omega
def c4 (c:Ct) (K:Int→Int→Int→Int→Prop):Prop:=
 match c with
 | .cells [.int .u64 (.sym a),.int .u64 (.sym b),.int .u64 (.sym c),.int .u64 (.sym d)]=>K a b c d
 | _=>False
theorem c4_mono {c:Ct} {K K':Int→Int→Int→Int→Prop} (hk:∀a b c d,K a b c d→K' a b c d) (h:c4 c K):c4 c K':=by
 unfold c4 at h ⊢
 split at h
 ·exact hk _ _ _ _ h
 ·exact h.elim
theorem c4_ex {c:Ct} {K:Int→Int→Int→Int→Prop} (h:c4 c K):∃a b d e,c=w4 a b d e∧K a b d e:=by
 unfold c4 at h
 split at h
 ·exact ⟨_,_,_,_,rfl,h⟩
 ·exact h.elim
def r4 (c:Ct) (f:Int→Int→Int→Int→Option (Ob×SV)):Option (Ob×SV):=
 match c with
 | .cells [.int .u64 (.sym a),.int .u64 (.sym b),.int .u64 (.sym c),.int .u64 (.sym d)]=>f a b c d
 | _=>none
theorem r4_ex {c:Ct} {f:Int→Int→Int→Int→Option (Ob×SV)} {x:Ob×SV} (h:r4 c f=some x):∃a b d e,c=w4 a b d e∧f a b d e=some x:=by
 unfold r4 at h
 split at h
 ·exact ⟨_,_,_,_,rfl,h⟩
 ·cases h
theorem vc_isz (a0 a1 a2 a3:Int) (K:SV→Mem→Prop):(execF cx0 u0 Tryz.f83 64 [.ptr 1 (.lit 0)] (memL [(1,⟨true,w4 a0 a1 a2 a3⟩)]) K)=(∀a,a=bor .u64 a3 a2→∀b,b=bor .u64 a a1→∀c,c=bor .u64 b a0→K (.bool (.sym (c
 ==0))) (memL [(1,⟨true,.cells [.int .u64 (.sym a0),.int .u64 (.sym a1),.int .u64 (.sym a2),.int .u64 (.sym a3)]⟩)])):=by kernel_rfl
theorem vc_iso (a0 a1 a2 a3:Int) (K:SV→Mem→Prop):(execF cx0 u0 Tryz.f131 64 [.ptr 1 (.lit 0)] (memL [(1,⟨true,w4 a0 a1 a2 a3⟩)]) K)=(∀a,a=bxor .u64 a3 (1011752739694698287:Int)→∀b,b=bxor .u64 a2 (7381016538464732716
 :Int)→∀c,c=bor .u64 a b→∀d,d=bxor .u64 a1 (754611498739239741:Int)→∀e,e=bor .u64 c d→∀f,f=bxor .u64 a0 (15230403791020821917:Int)→∀g,g=bor .u64 e f→K (.bool (.sym (g==0))) (memL [(1,⟨true,.cells
 [.int .u64 (.sym a0),.int .u64 (.sym a1),.int .u64 (.sym a2),.int .u64 (.sym a3)]⟩)])):=by kernel_rfl
theorem vc_ne (a0 a1 a2 a3 b0 b1 b2 b3:Int) (K:SV→Mem→Prop):(execF cx0 u0 Tryz.f135 64 [.ptr 1 (.lit 0),.ptr 9 (.lit 0)] (memL [(1,⟨true,w4 a0 a1 a2 a3⟩),(9,⟨true,w4 b0 b1 b2 b3⟩)]) K)=(∀a,a=bxor .u64 a3 b3→∀b,b=
 bxor .u64 a2 b2→∀c,c=bor .u64 a b→∀d,d=bxor .u64 a1 b1→∀e,e=bor .u64 c d→∀f,f=bxor .u64 a0 b0→∀g,g=bor .u64 e f→K (.int .u64 (.sym g)) (memL [(1,⟨true,.cells [.int .u64 (.sym a0),.int .u64 (.sym a1),.int
 .u64 (.sym a2),.int .u64 (.sym a3)]⟩),(9,⟨true,.cells [.int .u64 (.sym b0),.int .u64 (.sym b1),.int .u64 (.sym b2),.int .u64 (.sym b3)]⟩)])):=by kernel_rfl
def rIz:R0:=fun args l=>
 match args,l with
 | [.ptr 1 (.lit 0)],[(1,⟨true,x⟩)]=>r4 x fun a b c d=>some (some (Wd a∧Wd b∧Wd c∧Wd d),.bool (.sym (decide (V4 a b c d=0))))
 | _,_=>none
theorem iz_ok (args:List SV) (l:List (Nat×Reg)) (p:Ob) (v:SV) (h:rIz args l=some (p,v)) (hp:p.ok):∃U,execF cx0 U Tryz.f83 64 args (memL l) fun v' _=>∀β u,Den β v' u→Den β v u:=by
 unfold rIz at h
 split at h
 ·obtain ⟨a,b,c,d,rfl,q⟩:=r4_ex h
  simp only[Option.some.injEq,Prod.mk.injEq]at q
  obtain ⟨rfl,rfl⟩:=q
  obtain ⟨ha,hb,hc,hd⟩:Wd a∧Wd b∧Wd c∧Wd d:=hp
  refine ⟨u0,?_⟩
  have v:=vc_isz a b c d fun v' _=>∀β u,Den β v' u→Den β (.bool (.sym (decide (V4 a b c d=0)))) u
  rw[v]
  intro x0 h0 x1 h1 x2 h2
  obtain ⟨w0,z0⟩:=bor_zero hd hc
  rw[←h0]at w0 z0
  obtain ⟨w1,z1⟩:=bor_zero w0 hb
  rw[←h1]at w1 z1
  obtain ⟨w2,z2⟩:=bor_zero w1 ha
  rw[←h2]at w2 z2
  refine den_bool ?_
  show (x2==0)=_
  rw[Bool.eq_iff_iff,beq_iff_eq,decide_eq_true_eq,V4_zero ha hb hc hd,z2,z1,z0]
  constructor
  ·rintro ⟨⟨⟨h1,h2⟩,h3⟩,h4⟩;exact ⟨h4,h3,h2,h1⟩
  ·rintro ⟨h1,h2,h3,h4⟩;exact ⟨⟨⟨h4,h3⟩,h2⟩,h1⟩
 ·cases h
def cIz:Rd Tryz.prog:=mkQ mixed 83 Tryz.func83 (by decide) (by kernel_rfl) [] [.ptr 4 true] rIz iz_ok
def one4:Int:=V4 15230403791020821917 754611498739239741 7381016538464732716 1011752739694698287
theorem one_wd:Wd 15230403791020821917∧Wd 754611498739239741∧Wd 7381016538464732716∧Wd 1011752739694698287:=by unfold Wd;omega
theorem ne_chain {a0 a1 a2 a3 b0 b1 b2 b3 x0 x1 x2 x3 x4 x5 x6:Int} (ha:Wd a0∧Wd a1∧Wd a2∧Wd a3) (hb:Wd b0∧Wd b1∧Wd b2∧Wd b3) (h0:x0=bxor .u64 a3 b3) (h1:x1=bxor .u64 a2 b2) (h2:x2=bor .u64 x0 x1) (h3:x3=bxor .u64 a1 b1) (h4:x4=bor .u64 x2 x3) (h5:x5=bxor .u64 a0 b0) (h6:x6=bor .u64 x4 x5):
  Wd x6∧(x6=0↔V4 a0 a1 a2 a3=V4 b0 b1 b2 b3):=by
 obtain ⟨a0w,a1w,a2w,a3w⟩:=ha
 obtain ⟨b0w,b1w,b2w,b3w⟩:=hb
 obtain ⟨w0,z0⟩:=bxor_zeq a3w b3w
 rw[←h0]at w0 z0
 obtain ⟨w1,z1⟩:=bxor_zeq a2w b2w
 rw[←h1]at w1 z1
 obtain ⟨w2,z2⟩:=bor_zero w0 w1
 rw[←h2]at w2 z2
 obtain ⟨w3,z3⟩:=bxor_zeq a1w b1w
 rw[←h3]at w3 z3
 obtain ⟨w4,z4⟩:=bor_zero w2 w3
 rw[←h4]at w4 z4
 obtain ⟨w5,z5⟩:=bxor_zeq a0w b0w
 rw[←h5]at w5 z5
 obtain ⟨w6,z6⟩:=bor_zero w4 w5
 rw[←h6]at w6 z6
 refine ⟨w6,?_⟩
 rw[V4_inj a0w a1w a2w a3w b0w b1w b2w b3w,z6,z4,z2,z0,z1,z3,z5]
 constructor
 ·rintro ⟨⟨⟨h1,h2⟩,h3⟩,h4⟩;exact ⟨h4,h3,h2,h1⟩
 ·rintro ⟨h1,h2,h3,h4⟩;exact ⟨⟨⟨h4,h3⟩,h2⟩,h1⟩
def rIo:R0:=fun args l=>
 match args,l with
 | [.ptr 1 (.lit 0)],[(1,⟨true,x⟩)]=>r4 x fun a b c d=>some (some (Wd a∧Wd b∧Wd c∧Wd d),.bool (.sym (decide (V4 a b c d=one4))))
 | _,_=>none
theorem io_ok (args:List SV) (l:List (Nat×Reg)) (p:Ob) (v:SV) (h:rIo args l=some (p,v)) (hp:p.ok):∃U,execF cx0 U Tryz.f131 64 args (memL l) fun v' _=>∀β u,Den β v' u→Den β v u:=by
 unfold rIo at h
 split at h
 ·obtain ⟨a,b,c,d,rfl,q⟩:=r4_ex h
  simp only[Option.some.injEq,Prod.mk.injEq]at q
  obtain ⟨rfl,rfl⟩:=q
  have hw:Wd a∧Wd b∧Wd c∧Wd d:=hp
  refine ⟨u0,?_⟩
  have v:=vc_iso a b c d fun v' _=>∀β u,Den β v' u→Den β (.bool (.sym (decide (V4 a b c d=one4)))) u
  rw[v]
  intro x0 h0 x1 h1 x2 h2 x3 h3 x4 h4 x5 h5 x6 h6
  refine den_bool ?_
  show (x6==0)=_
  rw[Bool.eq_iff_iff,beq_iff_eq,decide_eq_true_eq]
  exact (ne_chain hw one_wd h0 h1 h2 h3 h4 h5 h6).2
 ·cases h
def cIo:Rd Tryz.prog:=mkQ mixed 131 Tryz.func131 (by decide) (by kernel_rfl) [] [.ptr 4 true] rIo io_ok
def neW (a0 a1 a2 a3 b0 b1 b2 b3:Int):Int:=bor .u64 (bor .u64 (bor .u64 (bxor .u64 a3 b3) (bxor .u64 a2 b2)) (bxor .u64 a1 b1)) (bxor .u64 a0 b0)
theorem neW_zero {a0 a1 a2 a3 b0 b1 b2 b3:Int} (ha:Wd a0∧Wd a1∧Wd a2∧Wd a3) (hb:Wd b0∧Wd b1∧Wd b2∧Wd b3):neW a0 a1 a2 a3 b0 b1 b2 b3=0↔V4 a0 a1 a2 a3=V4 b0 b1 b2 b3:=
 (ne_chain ha hb rfl rfl rfl rfl rfl rfl rfl).2
def rNe:R0:=fun args l=>
 match args,l with
 | [.ptr 1 (.lit 0),.ptr 9 (.lit 0)],[(1,⟨true,x⟩),(9,⟨true,y⟩)]=>r4 x fun a b c d=>r4 y fun a' b' c' d'=>some (none,.int .u64 (.sym (neW a b c d a' b' c' d')))
 | _,_=>none
theorem ne_ok (args:List SV) (l:List (Nat×Reg)) (p:Ob) (v:SV) (h:rNe args l=some (p,v)) (hp:p.ok):∃U,execF cx0 U Tryz.f135 64 args (memL l) fun v' _=>v'=v:=by
 unfold rNe at h
 split at h
 ·obtain ⟨a,b,c,d,rfl,q⟩:=r4_ex h
  obtain ⟨a',b',c',d',rfl,q2⟩:=r4_ex q
  simp only[Option.some.injEq,Prod.mk.injEq]at q2
  obtain ⟨rfl,rfl⟩:=q2
  refine ⟨u0,?_⟩
  rw[vc_ne a b c d a' b' c' d']
  rintro _ rfl _ rfl _ rfl _ rfl _ rfl _ rfl _ rfl
  rfl
 ·cases h
def cNe:Rd Tryz.prog:=mkR mixed 135 Tryz.func135 (by decide) (by kernel_rfl) [] [.ptr 4 true,.ptr 4 true] rNe ne_ok
def cxEq:Cx Tryz.prog:= { rds:= [cNe],efs:= [],eqs:= [] }
theorem vc_eq (a0 a1 a2 a3 b0 b1 b2 b3:Int) (K:SV→Mem→Prop):(execF cxEq u0 Tryz.f88 64 [.ptr 1 (.lit 0),.ptr 9 (.lit 0)] (memL [(1,⟨true,w4 a0 a1 a2 a3⟩),(9,⟨true,w4 b0 b1 b2 b3⟩)]) K)=(∀x,x=neW a0 a1 a2 a3 b0 b1 b2 b3
 →K (.bool (.sym (x==0))) (memL [(1,⟨true,w4 a0 a1 a2 a3⟩),(9,⟨true,w4 b0 b1 b2 b3⟩)])):=by kernel_rfl
def rEq:R0:=fun args l=>
 match args,l with
 | [.ptr 1 (.lit 0),.ptr 9 (.lit 0)],[(1,⟨true,x⟩),(9,⟨true,y⟩)]=>r4 x fun a b c d=>r4 y fun a' b' c' d'=>some (some ((Wd a∧Wd b∧Wd c∧Wd d)∧Wd a'∧Wd b'∧Wd c'∧Wd d'),.bool (.sym (decide (V4 a b c d=V4 a' b' c' d'))))
 | _,_=>none
theorem eq_ok (args:List SV) (l:List (Nat×Reg)) (p:Ob) (v:SV) (h:rEq args l=some (p,v)) (hp:p.ok):∃U,execF cxEq U Tryz.f88 64 args (memL l) fun v' _=>∀β u,Den β v' u→Den β v u:=by
 unfold rEq at h
 split at h
 ·obtain ⟨a,b,c,d,rfl,q⟩:=r4_ex h
  obtain ⟨a',b',c',d',rfl,q2⟩:=r4_ex q
  simp only[Option.some.injEq,Prod.mk.injEq]at q2
  obtain ⟨rfl,rfl⟩:=q2
  obtain ⟨ha,hb⟩:(Wd a∧Wd b∧Wd c∧Wd d)∧Wd a'∧Wd b'∧Wd c'∧Wd d':=hp
  refine ⟨u0,?_⟩
  rw[vc_eq a b c d a' b' c' d']
  rintro x rfl
  refine den_bool ?_
  show (neW _ _ _ _ _ _ _ _==0)=_
  rw[Bool.eq_iff_iff,beq_iff_eq,decide_eq_true_eq,neW_zero ha hb]
 ·cases h
def cEq:Rd Tryz.prog:=mkQ mixed 88 Tryz.func88 (by decide) (by kernel_rfl) [] [.ptr 4 true,.ptr 4 true] rEq eq_ok
theorem vc_set (a0 a1 a2 a3 b0 b1 b2 b3:Int) (K:SV→Mem→Prop):(execF cx0 u0 Tryz.f89 64 [.ptr 1 (.lit 0),.ptr 9 (.lit 0)] (memL [(1,⟨false,w4 a0 a1 a2 a3⟩),(9,⟨true,w4 b0 b1 b2 b3⟩)]) K)=K (.ptr 1 (.lit 0)) (memL [(1,
 ⟨false,.cells [.int .u64 (.sym b0),.int .u64 (.sym b1),.int .u64 (.sym b2),.int .u64 (.sym b3)]⟩),(9,⟨true,.cells [.int .u64 (.sym b0),.int .u64 (.sym b1),.int .u64 (.sym b2),.int .u64 (.sym b3)]⟩)]):=by kernel_rfl
theorem vc_so (a0 a1 a2 a3:Int) (K:SV→Mem→Prop):(execF cx0 u0 Tryz.f66 64 [.ptr 1 (.lit 0)] (memL [(1,⟨false,w4 a0 a1 a2 a3⟩)]) K)=K (.ptr 1 (.lit 0)) (memL [(1,⟨false,.cells [.int .u64 (.lit 15230403791020821917),.int .u64
 (.lit 754611498739239741),.int .u64 (.lit 7381016538464732716),.int .u64 (.lit 1011752739694698287)]⟩)]):=by kernel_rfl
def gSet:G0:=fun args l K=>
 match args,l with
 | [.ptr 1 (.lit 0),.ptr 9 (.lit 0)],[(1,⟨false,z⟩),(9,⟨true,x⟩)]=>c4 z fun _ _ _ _=>c4 x fun a0 a1 a2 a3=>K (.ptr 1 (.lit 0)) (memL [(1,⟨false,w4 a0 a1 a2 a3⟩),(9,⟨true,w4 a0 a1 a2 a3⟩)])
 | _,_=>False
theorem set_good:Good gSet:=by
 constructor
 ·intro args l K K' hk h
  unfold gSet at h ⊢
  split at h
  ·exact c4_mono (fun _ _ _ _ h=>c4_mono (fun _ _ _ _ h=>hk _ _ h) h) h
  ·exact h.elim
 ·intro args l K h
  unfold gSet at h
  split at h
  ·obtain ⟨_,_,_,_,_,h⟩:=c4_ex h
   obtain ⟨_,_,_,_,_,h⟩:=c4_ex h
   exact ⟨_,_,h⟩
  ·exact h.elim
theorem set_ok (args:List SV) (l:List (Nat×Reg)) (K:SV→Mem→Prop) (hup:KUp K) (h:gSet args l K):∃U,execF cx0 U Tryz.f89 64 args (memL l) K:=by
 unfold gSet at h
 split at h
 ·obtain ⟨z0,z1,z2,z3,rfl,q0⟩:=c4_ex h
  obtain ⟨a0,a1,a2,a3,rfl,q1⟩:=c4_ex q0
  refine ⟨u0,?_⟩
  rw[vc_set z0 z1 z2 z3 a0 a1 a2 a3]
  exact q1
 ·exact h.elim
def kSet:Ef Tryz.prog:=mkE mixed 89 Tryz.func89 (by decide) (by kernel_rfl) [] [.ptr 4 false,.ptr 4 true] gSet set_good set_ok
def gSo:G0:=fun args l K=>
 match args,l with
 | [.ptr 1 (.lit 0)],[(1,⟨false,z⟩)]=>c4 z fun _ _ _ _=>K (.ptr 1 (.lit 0)) (memL [(1,⟨false,.cells [.int .u64 (.lit 15230403791020821917),.int .u64 (.lit 754611498739239741),.int .u64 (.lit 7381016538464732716),.int .u64 (.lit 1011752739694698287)]⟩)])
 | _,_=>False
theorem so_good:Good gSo:=by
 constructor
 ·intro args l K K' hk h
  unfold gSo at h ⊢
  split at h
  ·exact c4_mono (fun _ _ _ _ h=>hk _ _ h) h
  ·exact h.elim
 ·intro args l K h
  unfold gSo at h
  split at h
  ·obtain ⟨_,_,_,_,_,h⟩:=c4_ex h
   exact ⟨_,_,h⟩
  ·exact h.elim
theorem so_ok (args:List SV) (l:List (Nat×Reg)) (K:SV→Mem→Prop) (hup:KUp K) (h:gSo args l K):∃U,execF cx0 U Tryz.f66 64 args (memL l) K:=by
 unfold gSo at h
 split at h
 ·obtain ⟨z0,z1,z2,z3,rfl,q0⟩:=c4_ex h
  refine ⟨u0,?_⟩
  rw[vc_so z0 z1 z2 z3]
  exact q0
 ·exact h.elim
def kSo:Ef Tryz.prog:=mkE mixed 66 Tryz.func66 (by decide) (by kernel_rfl) [] [.ptr 4 false] gSo so_good so_ok
def cxNeg:Cx Tryz.prog:= { rds:= [cSub,cIz],efs:= [cSz],eqs:= [] }
def NegQ (b0 b1 b2 b3:Int) (K:Int→Int→Int→Int→Prop):Prop:=
 (Wd b0∧Wd b1∧Wd b2∧Wd b3)∧(decide (V4 b0 b1 b2 b3=0)=true→K 0 0 0 0)∧(decide (V4 b0 b1 b2 b3=0)=false→
  SubS 4332616871279656263 b0 0 fun s0 k0=>SubS 10917124144477883021 b1 k0 fun s1 k1=>SubS 13281191951274694749 b2 k1 fun s2 k2=>SubS 3486998266802970665 b3 k2 fun s3 _=>K s0 s1 s2 s3)
theorem vc_neg (a0 a1 a2 a3 b0 b1 b2 b3:Int) (K:SV→Mem→Prop):(execF cxNeg u0 Tryz.f76 64 [.ptr 1 (.lit 0),.ptr 9 (.lit 0)] (memL [(1,⟨false,w4 a0 a1 a2 a3⟩),(9,⟨true,w4 b0 b1 b2 b3⟩)]) K)=
 NegQ b0 b1 b2 b3 fun y0 y1 y2 y3=>K (.ptr 1 (.lit 0)) (memL [(1,⟨false,w4 y0 y1 y2 y3⟩),(9,⟨true,w4 b0 b1 b2 b3⟩)]):=by kernel_rfl
theorem vc_neg1 (b0 b1 b2 b3:Int) (K:SV→Mem→Prop):(execF cxNeg u0 Tryz.f76 64 [.ptr 1 (.lit 0),.ptr 1 (.lit 0)] (memL [(1,⟨false,w4 b0 b1 b2 b3⟩)]) K)=
 NegQ b0 b1 b2 b3 fun y0 y1 y2 y3=>K (.ptr 1 (.lit 0)) (memL [(1,⟨false,w4 y0 y1 y2 y3⟩)]):=by kernel_rfl
def negN (x:Nat):Nat:=(qN-x)%qN
theorem negN_lt (x:Nat):negN x<qN:=Nat.mod_lt _ (by decide)
theorem neg_of {b0 b1 b2 b3:Int} {x:Nat} {K:Int→Int→Int→Int→Prop} (hx:El b0 b1 b2 b3 x) (hK:∀r,r=negN x→K (lm r 0) (lm r 1) (lm r 2) (lm r 3)):NegQ b0 b1 b2 b3 K:=by
 have hw:=hx.wd
 have hv:=hx.val
 have hl:=hx.lt
 refine ⟨hw,fun h=> ?_,fun h=> ?_⟩
 ·simp only[decide_eq_true_eq]at h
  have hx0:x=0:=by omega
  have:=hK 0 (by unfold negN;rw[hx0];simp)
  have e0:∀i,lm 0 i=0:=fun i=>by
   unfold lm
   simp
  simp only[e0]at this
  exact this
 ·simp only[decide_eq_false_iff_not]at h
  obtain ⟨hb0,hb1,hb2,hb3⟩:=hw
  have hS:SubS 4332616871279656263 b0 0 fun s0 k0=>SubS 10917124144477883021 b1 k0 fun s1 k1=>SubS 13281191951274694749 b2 k1 fun s2 k2=>SubS 3486998266802970665 b3 k2 fun s3 _=>K s0 s1 s2 s3:=by
   refine SubS.of wdq0 hb0 (Int.le_refl _) (by decide) fun s0 k0 c0 c1 c2 c3=> ?_
   refine SubS.of wdq1 hb1 c1 c2 fun s1 k1 d0 d1 d2 d3=> ?_
   refine SubS.of wdq2 hb2 d1 d2 fun s2 k2 e0 e1 e2 e3=> ?_
   refine SubS.of wdq3 hb3 e1 e2 fun s3 k3 f0 f1 f2 f3=> ?_
   have e:=subp_eq c3 d3 e3 f3
   rw[hv]at e
   have n0:=V4_nonneg c0 d0 e0 f0
   have n1:=V4_lt c0 d0 e0 f0
   have e2:V4 4332616871279656263 10917124144477883021 13281191951274694749 3486998266802970665=21888242871839275222246405745257275088696311157297823662689037894645226208583:=by unfold V4;omega
   rw[e2]at e
   have er:V4 s0 s1 s2 s3=((negN x:Nat):Int):=by
    have:negN x=qN-x:=Nat.mod_eq_of_lt (by unfold qN at *;omega)
    rw[this]
    unfold qN at *
    omega
   obtain ⟨q0,q1,q2,q3⟩:=lm_of c0 d0 e0 f0 er
   rw[q0,q1,q2,q3]
   exact hK _ rfl
  exact hS
def gNeg:G0:=fun args l K=>
 match args,l with
 | [.ptr 1 (.lit 0),.ptr 9 (.lit 0)],[(1,⟨false,z⟩),(9,⟨true,x⟩)]=>c4 z fun _ _ _ _=>c4 x fun a0 a1 a2 a3=>∃x,El a0 a1 a2 a3 x∧∀r,r=negN x→∀y0 y1 y2 y3,El y0 y1 y2 y3 r→K (.ptr 1 (.lit 0)) (memL [(1,⟨false,w4 y0 y1 y2 y3⟩),(9,⟨true,w4 a0 a1 a2 a3⟩)])
 | [.ptr 1 (.lit 0),.ptr 1 (.lit 0)],[(1,⟨false,z⟩)]=>c4 z fun a0 a1 a2 a3=>∃x,El a0 a1 a2 a3 x∧∀r,r=negN x→∀y0 y1 y2 y3,El y0 y1 y2 y3 r→K (.ptr 1 (.lit 0)) (memL [(1,⟨false,w4 y0 y1 y2 y3⟩)])
 | _,_=>False
theorem neg_good:Good gNeg:=by
 constructor
 ·intro args l K K' hk h
  unfold gNeg at h ⊢
  split at h
  ·exact c4_mono (fun _ _ _ _ h=>c4_mono (fun _ _ _ _ h=>h.elim fun x h=>⟨x,h.1,fun r hr y0 y1 y2 y3 hy=>hk _ _ (h.2 r hr y0 y1 y2 y3 hy)⟩) h) h
  ·exact c4_mono (fun _ _ _ _ h=>h.elim fun x h=>⟨x,h.1,fun r hr y0 y1 y2 y3 hy=>hk _ _ (h.2 r hr y0 y1 y2 y3 hy)⟩) h
  ·exact h.elim
 ·intro args l K h
  unfold gNeg at h
  split at h
  ·obtain ⟨_,_,_,_,_,h⟩:=c4_ex h
   obtain ⟨_,_,_,_,_,h⟩:=c4_ex h
   obtain ⟨x,_,h⟩:=h
   exact ⟨_,_,h _ rfl _ _ _ _ (El.of (negN_lt x))⟩
  ·obtain ⟨_,_,_,_,_,h⟩:=c4_ex h
   obtain ⟨x,_,h⟩:=h
   exact ⟨_,_,h _ rfl _ _ _ _ (El.of (negN_lt x))⟩
  ·exact h.elim
theorem neg_ok (args:List SV) (l:List (Nat×Reg)) (K:SV→Mem→Prop) (hup:KUp K) (h:gNeg args l K):∃U,execF cxNeg U Tryz.f76 64 args (memL l) K:=by
 unfold gNeg at h
 split at h
 ·obtain ⟨z0,z1,z2,z3,rfl,q0⟩:=c4_ex h
  obtain ⟨a0,a1,a2,a3,rfl,q1⟩:=c4_ex q0
  obtain ⟨x,hx,hK⟩:=q1
  exact ⟨u0,(vc_neg _ _ _ _ _ _ _ _ _).mpr (neg_of hx fun r hr=>hK r hr _ _ _ _ (El.of (by rw[hr];exact negN_lt x)))⟩
 ·obtain ⟨a0,a1,a2,a3,rfl,q1⟩:=c4_ex h
  obtain ⟨x,hx,hK⟩:=q1
  exact ⟨u0,(vc_neg1 _ _ _ _ _).mpr (neg_of hx fun r hr=>hK r hr _ _ _ _ (El.of (by rw[hr];exact negN_lt x)))⟩
 ·exact h.elim
def kNeg:Ef Tryz.prog:=mkE mixed 76 Tryz.func76 (by decide) (by kernel_rfl) [] [.ptr 4 false,.ptr 4 true] gNeg neg_good neg_ok
theorem vc_sel0 (z0 z1 z2 z3 a0 a1 a2 a3 b0 b1 b2 b3 s:Int) (K:SV→Mem→Prop):(execF cx0 u0 Tryz.f82 64 [.ptr 1 (.lit 0),.int .i64 (.sym s),.ptr 9 (.lit 0),.ptr 17 (.lit 0)] (memL [(1,⟨false,w4 z0 z1 z2 z3⟩),(9,⟨true,w4 a0
 a1 a2 a3⟩),(17,⟨true,w4 b0 b1 b2 b3⟩)]) K)=(∀b,b=IntKind.wrap IntKind.i64 (0-s)→∀c,c=bor .i64 s b→∀d,d=shrv .i64 c 63→∀a,a=IntKind.wrap IntKind.u64 d→∀e,e=bxor .u64 a0 b0→∀f,f=band .u64 a e→∀g,g
 =bxor .u64 a0 f→∀h,h=bxor .u64 a1 b1→∀i,i=band .u64 a h→∀j,j=bxor .u64 a1 i→∀k,k=bxor .u64 a2 b2→∀l,l=band .u64 a k→∀m,m=bxor .u64 a2 l→∀n,n=bxor .u64 a3 b3→∀o,o=band .u64 a n→∀p,p=
 bxor .u64 a3 o→K (.ptr 1 (.lit 0)) (memL [(1,⟨false,.cells [.int .u64 (.sym g),.int .u64 (.sym j),.int .u64 (.sym m),.int .u64 (.sym p)]⟩),(9,⟨true,.cells [.int .u64 (.sym a0),.int .u64 (.sym a1),.int .u64 (.sym a2),.int .u64
 (.sym a3)]⟩),(17,⟨true,.cells [.int .u64 (.sym b0),.int .u64 (.sym b1),.int .u64 (.sym b2),.int .u64 (.sym b3)]⟩)])):=by kernel_rfl
theorem vc_sel1 (z0 z1 z2 z3 a0 a1 a2 a3 s:Int) (K:SV→Mem→Prop):(execF cx0 u0 Tryz.f82 64 [.ptr 1 (.lit 0),.int .i64 (.sym s),.ptr 9 (.lit 0),.ptr 1 (.lit 0)] (memL [(1,⟨false,w4 z0 z1 z2 z3⟩),(9,⟨true,w4 a0 a1 a2 a3⟩)])
 K)=(∀b,b=IntKind.wrap IntKind.i64 (0-s)→∀c,c=bor .i64 s b→∀d,d=shrv .i64 c 63→∀a,a=IntKind.wrap IntKind.u64 d→∀e,e=bxor .u64 a0 z0→∀f,f=band .u64 a e→∀g,g=bxor .u64 a0 f→∀h,h=bxor .u64 a1
 z1→∀i,i=band .u64 a h→∀j,j=bxor .u64 a1 i→∀k,k=bxor .u64 a2 z2→∀l,l=band .u64 a k→∀m,m=bxor .u64 a2 l→∀n,n=bxor .u64 a3 z3→∀o,o=band .u64 a n→∀p,p=bxor .u64 a3 o→K (.ptr 1 (.lit 0)) (memL
 [(1,⟨false,.cells [.int .u64 (.sym g),.int .u64 (.sym j),.int .u64 (.sym m),.int .u64 (.sym p)]⟩),(9,⟨true,.cells [.int .u64 (.sym a0),.int .u64 (.sym a1),.int .u64 (.sym a2),.int .u64 (.sym a3)]⟩)])):=by kernel_rfl
theorem vc_sel2 (z0 z1 z2 z3 b0 b1 b2 b3 s:Int) (K:SV→Mem→Prop):(execF cx0 u0 Tryz.f82 64 [.ptr 1 (.lit 0),.int .i64 (.sym s),.ptr 1 (.lit 0),.ptr 9 (.lit 0)] (memL [(1,⟨false,w4 z0 z1 z2 z3⟩),(9,⟨true,w4 b0 b1 b2 b3⟩)])
 K)=(∀b,b=IntKind.wrap IntKind.i64 (0-s)→∀c,c=bor .i64 s b→∀d,d=shrv .i64 c 63→∀a,a=IntKind.wrap IntKind.u64 d→∀e,e=bxor .u64 z0 b0→∀f,f=band .u64 a e→∀g,g=bxor .u64 z0 f→∀h,h=bxor .u64 z1
 b1→∀i,i=band .u64 a h→∀j,j=bxor .u64 z1 i→∀k,k=bxor .u64 z2 b2→∀l,l=band .u64 a k→∀m,m=bxor .u64 z2 l→∀n,n=bxor .u64 z3 b3→∀o,o=band .u64 a n→∀p,p=bxor .u64 z3 o→K (.ptr 1 (.lit 0)) (memL
 [(1,⟨false,.cells [.int .u64 (.sym g),.int .u64 (.sym j),.int .u64 (.sym m),.int .u64 (.sym p)]⟩),(9,⟨true,.cells [.int .u64 (.sym b0),.int .u64 (.sym b1),.int .u64 (.sym b2),.int .u64 (.sym b3)]⟩)])):=by kernel_rfl
theorem wd_max:Wd 18446744073709551615:=by unfold Wd;omega
theorem bxor_bxor {b c:Int} (hb:Wd b) (hc:Wd c):bxor .u64 b (bxor .u64 b c)=c:=by
 obtain ⟨e,w⟩:=bxor_eq hb hc
 obtain ⟨e2,_⟩:=bxor_eq hb w
 rw[e2,e,Int.toNat_natCast,←Nat.xor_assoc,Nat.xor_self,Nat.zero_xor]
 unfold Wd at hc
 omega
theorem band_max {c:Int} (hc:Wd c):band .u64 18446744073709551615 c=c:=by
 obtain ⟨e,_⟩:=band_eq wd_max hc
 rw[e,show (18446744073709551615:Int).toNat=2 ^ 64-1 from rfl,Nat.and_comm,Nat.and_two_pow_sub_one_eq_mod,Nat.mod_eq_of_lt (by unfold Wd at hc;omega)]
 unfold Wd at hc
 omega
theorem sel_word {b c m:Int} (hb:Wd b) (hc:Wd c):(m=0→bxor .u64 b (band .u64 m (bxor .u64 b c))=b)∧(m=18446744073709551615→bxor .u64 b (band .u64 m (bxor .u64 b c))=c):=by
 have w:=(bxor_eq hb hc).2
 constructor
 ·rintro rfl
  obtain ⟨e,w2⟩:=band_eq wd0 w
  obtain ⟨e2,_⟩:=bxor_eq hb w2
  rw[e2,e,show (0:Int).toNat=0 from rfl,Nat.zero_and,show ((0:Nat):Int).toNat=0 from rfl,Nat.xor_zero]
  unfold Wd at hb
  omega
 ·rintro rfl
  rw[band_max w,bxor_bxor hb hc]
theorem sel_mask {s x0 x1 x2 x3:Int} (hs:s=0∨s=1∨s= -1) (h0:x0=IntKind.i64.wrap (0-s)) (h1:x1=bor .i64 s x0) (h2:x2=shrv .i64 x1 63) (h3:x3=IntKind.u64.wrap x2):(s=0→x3=0)∧(s≠0→x3=18446744073709551615):=by
 rcases hs with rfl | rfl | rfl
 ·exact ⟨fun _=>by rw[h3,h2,h1,h0];decide +kernel,fun h=>absurd rfl h⟩
 ·exact ⟨fun h=>absurd h (by decide),fun _=>by rw[h3,h2,h1,h0];decide +kernel⟩
 ·exact ⟨fun h=>absurd h (by decide),fun _=>by rw[h3,h2,h1,h0];decide +kernel⟩
theorem sel_of {a0 a1 a2 a3 b0 b1 b2 b3 s:Int} {K:Int→Int→Int→Int→Prop} (hs:s=0∨s=1∨s= -1) (ha:Wd a0∧Wd a1∧Wd a2∧Wd a3) (hb:Wd b0∧Wd b1∧Wd b2∧Wd b3) (h0:s=0→K a0 a1 a2 a3) (h1:s≠0→K b0 b1 b2 b3):
  ∀x0,x0=IntKind.i64.wrap (0-s)→∀x1,x1=bor .i64 s x0→∀x2,x2=shrv .i64 x1 63→∀x3,x3=IntKind.u64.wrap x2→∀x4,x4=bxor .u64 a0 b0→∀x5,x5=band .u64 x3 x4→∀x6,x6=bxor .u64 a0 x5→∀x7,x7=bxor .u64 a1 b1→∀x8,x8=band .u64 x3 x7→∀x9,x9=bxor .u64 a1 x8→
  ∀x10,x10=bxor .u64 a2 b2→∀x11,x11=band .u64 x3 x10→∀x12,x12=bxor .u64 a2 x11→∀x13,x13=bxor .u64 a3 b3→∀x14,x14=band .u64 x3 x13→∀x15,x15=bxor .u64 a3 x14→K x6 x9 x12 x15:=by
 intro x0 e0 x1 e1 x2 e2 x3 e3
 obtain ⟨m0,m1⟩:=sel_mask hs e0 e1 e2 e3
 rintro _ rfl _ rfl _ rfl _ rfl _ rfl _ rfl _ rfl _ rfl _ rfl _ rfl _ rfl _ rfl
 by_cases h:s=0
 ·rw[(sel_word ha.1 hb.1).1 (m0 h),(sel_word ha.2.1 hb.2.1).1 (m0 h),(sel_word ha.2.2.1 hb.2.2.1).1 (m0 h),(sel_word ha.2.2.2 hb.2.2.2).1 (m0 h)]
  exact h0 h
 ·rw[(sel_word ha.1 hb.1).2 (m1 h),(sel_word ha.2.1 hb.2.1).2 (m1 h),(sel_word ha.2.2.1 hb.2.2.1).2 (m1 h),(sel_word ha.2.2.2 hb.2.2.2).2 (m1 h)]
  exact h1 h
def selC (s a0 a1 a2 a3 b0 b1 b2 b3:Int) (K:Int→Int→Int→Int→Prop):Prop:=
 ((s=0∨s=1∨s= -1)∧(Wd a0∧Wd a1∧Wd a2∧Wd a3)∧Wd b0∧Wd b1∧Wd b2∧Wd b3)∧(s=0→K a0 a1 a2 a3)∧(s≠0→K b0 b1 b2 b3)
theorem selC_mono {s a0 a1 a2 a3 b0 b1 b2 b3:Int} {K K':Int→Int→Int→Int→Prop} (hk:∀a b c d,K a b c d→K' a b c d) (h:selC s a0 a1 a2 a3 b0 b1 b2 b3 K):selC s a0 a1 a2 a3 b0 b1 b2 b3 K':=
 ⟨h.1,fun e=>hk _ _ _ _ (h.2.1 e),fun e=>hk _ _ _ _ (h.2.2 e)⟩
theorem selC_live {s a0 a1 a2 a3 b0 b1 b2 b3:Int} {K:Int→Int→Int→Int→Prop} (h:selC s a0 a1 a2 a3 b0 b1 b2 b3 K):∃a b c d,K a b c d:=by
 by_cases e:s=0
 ·exact ⟨_,_,_,_,h.2.1 e⟩
 ·exact ⟨_,_,_,_,h.2.2 e⟩
def gSel:G0:=fun args l K=>
 match args,l with
 | [.ptr 1 (.lit 0),.int .i64 (.sym s),.ptr 9 (.lit 0),.ptr 17 (.lit 0)],[(1,⟨false,rz⟩),(9,⟨true,ra⟩),(17,⟨true,rb⟩)]=>c4 rz fun _ _ _ _=>c4 ra fun a0 a1 a2 a3=>c4 rb fun b0 b1 b2 b3=>selC s a0 a1 a2 a3 b0 b1 b2 b3 fun y0 y1 y2 y3=>K (.ptr 1 (.lit 0)) (memL [(1,⟨false,w4 y0 y1 y2 y3⟩),(9,⟨true,w4 a0 a1 a2 a3⟩),(17,⟨true,w4 b0 b1 b2 b3⟩)])
 | [.ptr 1 (.lit 0),.int .i64 (.sym s),.ptr 9 (.lit 0),.ptr 1 (.lit 0)],[(1,⟨false,rz⟩),(9,⟨true,ra⟩)]=>c4 rz fun z0 z1 z2 z3=>c4 ra fun a0 a1 a2 a3=>selC s a0 a1 a2 a3 z0 z1 z2 z3 fun y0 y1 y2 y3=>K (.ptr 1 (.lit 0)) (memL [(1,⟨false,w4 y0 y1 y2 y3⟩),(9,⟨true,w4 a0 a1 a2 a3⟩)])
 | [.ptr 1 (.lit 0),.int .i64 (.sym s),.ptr 1 (.lit 0),.ptr 9 (.lit 0)],[(1,⟨false,rz⟩),(9,⟨true,rb⟩)]=>c4 rz fun z0 z1 z2 z3=>c4 rb fun b0 b1 b2 b3=>selC s z0 z1 z2 z3 b0 b1 b2 b3 fun y0 y1 y2 y3=>K (.ptr 1 (.lit 0)) (memL [(1,⟨false,w4 y0 y1 y2 y3⟩),(9,⟨true,w4 b0 b1 b2 b3⟩)])
 | _,_=>False
theorem sel_good:Good gSel:=by
 constructor
 ·intro args l K K' hk h
  unfold gSel at h ⊢
  split at h
  ·exact c4_mono (fun _ _ _ _ h=>c4_mono (fun _ _ _ _ h=>c4_mono (fun _ _ _ _ h=>selC_mono (fun _ _ _ _=>hk _ _) h) h) h) h
  ·exact c4_mono (fun _ _ _ _ h=>c4_mono (fun _ _ _ _ h=>selC_mono (fun _ _ _ _=>hk _ _) h) h) h
  ·exact c4_mono (fun _ _ _ _ h=>c4_mono (fun _ _ _ _ h=>selC_mono (fun _ _ _ _=>hk _ _) h) h) h
  ·exact h.elim
 ·intro args l K h
  unfold gSel at h
  split at h
  ·obtain ⟨_,_,_,_,_,h⟩:=c4_ex h
   obtain ⟨_,_,_,_,_,h⟩:=c4_ex h
   obtain ⟨_,_,_,_,_,h⟩:=c4_ex h
   obtain ⟨_,_,_,_,h⟩:=selC_live h
   exact ⟨_,_,h⟩
  ·obtain ⟨_,_,_,_,_,h⟩:=c4_ex h
   obtain ⟨_,_,_,_,_,h⟩:=c4_ex h
   obtain ⟨_,_,_,_,h⟩:=selC_live h
   exact ⟨_,_,h⟩
  ·obtain ⟨_,_,_,_,_,h⟩:=c4_ex h
   obtain ⟨_,_,_,_,_,h⟩:=c4_ex h
   obtain ⟨_,_,_,_,h⟩:=selC_live h
   exact ⟨_,_,h⟩
  ·exact h.elim
theorem sel_ok (args:List SV) (l:List (Nat×Reg)) (K:SV→Mem→Prop) (hup:KUp K) (h:gSel args l K):∃U,execF cx0 U Tryz.f82 64 args (memL l) K:=by
 unfold gSel at h
 split at h
 ·rename_i s rz ra rb
  obtain ⟨z0,z1,z2,z3,rfl,q0⟩:=c4_ex h
  obtain ⟨a0,a1,a2,a3,rfl,q1⟩:=c4_ex q0
  obtain ⟨b0,b1,b2,b3,rfl,q2⟩:=c4_ex q1
  refine ⟨u0,?_⟩
  rw[vc_sel0 z0 z1 z2 z3 a0 a1 a2 a3 b0 b1 b2 b3 s]
  exact sel_of q2.1.1 q2.1.2.1 q2.1.2.2 q2.2.1 q2.2.2
 ·rename_i s rz ra
  obtain ⟨z0,z1,z2,z3,rfl,q0⟩:=c4_ex h
  obtain ⟨a0,a1,a2,a3,rfl,q1⟩:=c4_ex q0
  refine ⟨u0,?_⟩
  rw[vc_sel1 z0 z1 z2 z3 a0 a1 a2 a3 s]
  exact sel_of q1.1.1 q1.1.2.1 q1.1.2.2 q1.2.1 q1.2.2
 ·rename_i s rz rb
  obtain ⟨z0,z1,z2,z3,rfl,q0⟩:=c4_ex h
  obtain ⟨b0,b1,b2,b3,rfl,q1⟩:=c4_ex q0
  refine ⟨u0,?_⟩
  rw[vc_sel2 z0 z1 z2 z3 b0 b1 b2 b3 s]
  exact sel_of q1.1.1 q1.1.2.1 q1.1.2.2 q1.2.1 q1.2.2
 ·exact h.elim
def kSel:Ef Tryz.prog:=mkE mixed 82 Tryz.func82 (by decide) (by kernel_rfl) [] [.ptr 4 false,.num,.ptr 4 true,.ptr 4 true] gSel sel_good sel_ok
theorem wrap64_ex (y:Int):∃t:Int,IntKind.i64.wrap y=y+18446744073709551616*t:=by
 show ∃t:Int,(if (true && decide (y%18446744073709551616≥9223372036854775808))=true then y%18446744073709551616-18446744073709551616 else y%18446744073709551616)=_
 split
 ·exact ⟨-(y / 18446744073709551616)-1,by omega⟩
 ·exact ⟨-(y / 18446744073709551616),by omega⟩
theorem band_low (x:Int):band .i64 x 4294967295=x%4294967296:=by
 have e1:(BitVec.ofInt IntKind.i64.bits x).toNat=(x%18446744073709551616).toNat:=by
  simp only[IntKind.bits,BitVec.toNat_ofInt]
  rfl
 have e2:(BitVec.ofInt IntKind.i64.bits (4294967295:Int)).toNat=2 ^ 32-1:=by decide
 unfold band
 rw[BitVec.toNat_and,e1,e2,Nat.and_two_pow_sub_one_eq_mod]
 have h:(((x%18446744073709551616).toNat%2 ^ 32:Nat):Int)=x%4294967296:=by omega
 rw[h,wrap64 (by omega) (by omega)]
def udF (c:Int):Int:=(c+9223372034707292159)%4294967296-2147483647
def udG (c:Int):Int:=(c+9223372034707292159) / 4294967296%4294967296-2147483647
theorem ud_of {f g:Int} (h1: -2147483648<f) (h2:f≤2147483648) (h3: -2147483648<g) (h4:g≤2147483648):udF (IntKind.i64.wrap (f+4294967296*g))=f∧udG (IntKind.i64.wrap (f+4294967296*g))=g:=by
 obtain ⟨t,ht⟩:=wrap64_ex (f+4294967296*g)
 unfold udF udG
 rw[ht]
 omega
theorem vc_ud (c:Int) (K:SV→Mem→Prop):(execF cx0 u0 Tryz.f127 64 [.int .i64 (.sym c)] (memL []) K)=(∀a,a=IntKind.wrap IntKind.i64 (c+9223372034707292159)→∀b,b=band .i64 a (4294967295:Int)→∀d,d=IntKind.wrap
 IntKind.i64 (b-2147483647)→∀e,e=shrv .i64 a 32→∀f,f=band .i64 e (4294967295:Int)→∀g,g=IntKind.wrap IntKind.i64 (f-2147483647)→K (.tup [.int .i64 (.sym d),.int .i64 (.sym g)]) Tr.leaf):=by kernel_rfl
def rUd:R0:=fun args l=>
 match args,l with
 | [.int .i64 (.sym c)],[]=>some (none,.tup [.int .i64 (.sym (udF c)),.int .i64 (.sym (udG c))])
 | _,_=>none
theorem ud_ok (args:List SV) (l:List (Nat×Reg)) (p:Ob) (v:SV) (h:rUd args l=some (p,v)) (hp:p.ok):∃U,execF cx0 U Tryz.f127 64 args (memL l) fun v' _=>v'=v:=by
 unfold rUd at h
 split at h
 ·rename_i c
  simp only[Option.some.injEq,Prod.mk.injEq]at h
  obtain ⟨rfl,rfl⟩:=h
  refine ⟨u0,?_⟩
  rw[vc_ud c]
  intro x0 h0 x1 h1 x2 h2 x3 h3 x4 h4 x5 h5
  rw[band_low]at h1 h4
  obtain ⟨t,ht⟩:=wrap64_ex (c+9223372034707292159)
  have e3:x3=x0 / 4294967296:=by
   rw[h3]
   unfold shrv
   rw[show min 32 IntKind.i64.bits=32 by decide,Int.fdiv_eq_ediv_of_nonneg _ (by decide)]
   rfl
  rw[wrap64 (by omega) (by omega)]at h2 h5
  have f2:x2=udF c:=by unfold udF;omega
  have f5:x5=udG c:=by unfold udG;omega
  rw[f2,f5]
 ·cases h
def cUd:Rd Tryz.prog:=mkR mixed 127 Tryz.func127 (by decide) (by kernel_rfl) [] [.num] rUd ud_ok
def bl (x:Nat):Nat:=if x=0 then 0 else x.log2+1
theorem bl_spec (x:Nat):x<2 ^ bl x∧(bl x=0∨2 ^ (bl x-1)≤x):=by
 unfold bl
 split
 ·rename_i h;subst h;exact ⟨by decide,.inl rfl⟩
 ·rename_i h
  exact ⟨Nat.lt_log2_self,.inr (by rw[Nat.add_sub_cancel];exact Nat.log2_self_le h)⟩
theorem bl_unique {x n:Nat} (h1:x<2 ^ n) (h2:n=0∨2 ^ (n-1)≤x):bl x=n:=by
 unfold bl
 cases n with
 | zero=>
  have:x=0:=by simpa using h1
  rw[if_pos this]
 | succ m=>
  have h2:2 ^ m≤x:=by simpa using h2
  have h0:x≠0:=by have:=Nat.pow_pos (n:=m) (show 0<2 by omega);omega
  rw[if_neg h0,(Nat.log2_eq_iff h0).2 ⟨h2,h1⟩]
theorem bl_div {x u s:Nat} (h:u=x / 2 ^ s) (hu:1≤u):bl x=s+bl u:=by
 obtain ⟨h1,h2⟩:=bl_spec u
 have hp:=Nat.pow_pos (n:=s) (show 0<2 by omega)
 have hd:=Nat.div_add_mod x (2 ^ s)
 have hm:=Nat.mod_lt x hp
 rw[←h]at hd
 refine bl_unique ?_ ?_
 ·have:2 ^ s*(u+1)≤2 ^ s*2 ^ bl u:=Nat.mul_le_mul_left _ h1
  rw[Nat.mul_add]at this
  rw[Nat.pow_add]
  omega
 ·right
  rcases h2 with h2 | h2
  ·rw[h2]at h1;omega
  ·have hb:bl u≠0:=fun e=>by rw[e]at h1;omega
   have:2 ^ s*2 ^ (bl u-1)≤2 ^ s*u:=Nat.mul_le_mul_left _ h2
   rw[show s+bl u-1=s+(bl u-1) by omega,Nat.pow_add]
   omega
theorem bl_le {x n:Nat} (h:x<2 ^ n):bl x≤n:=by
 obtain ⟨_,h2⟩:=bl_spec x
 rcases h2 with h2 | h2
 ·omega
 ·apply Classical.byContradiction
  intro hn
  have:2 ^ n≤2 ^ (bl x-1):=Nat.pow_le_pow_right (by omega) (by omega)
  omega
def lenTab:ByteArray:=ByteArray.mk (Array.mk [0,1,2,2,3,3,3,3,4,4,4,4,4,4,4,4,5,5,5,5,5,5,5,5,5,5,5,5,5,5,5,5,6,6,6,6,6,6,6,6,6,6,6,6,6,6,6,6,6,6,6,6,6,6,6,6,6,6,6,6,6,6,6,6,7,7,7,7,7,7,7,7,7,7,7,7,7,7,7,7,7,7,7,7,7,7,7,7,7,7,7,7,7,7,7,7,7,7,7,7,7,7,7,7,7,7,7,7,7,7,7,7,7,7,7,7,7,7,7,7,7,7,7,7,7,7,7,7,8,8,8,8,8,8,8,8,8,8,8,8,8,8,8,8,8,8,8,8,8,8,8,8,8,8,8,8,8,8,8,8,8,8,8,8,8,8,8,8,8,8,8,8,8,8,8,8,8,8,8,8,8,8,8,8,8,8,8,8,8,8,8,8,8,8,8,8,8,8,8,8,8,8,8,8,8,8,8,8,8,8,8,8,8,8,8,8,8,8,8,8,8,8,8,8,8,8,8,8,8,8,8,8,8,8,8,8,8,8,8,8,8,8,8,8,8,8,8,8,8,8,8,8,8,8,8,8])
theorem tab_all:((List.range 256).all fun i=>decide (strAt lenTab i=((bl i:Nat):Int)))=true:=by decide +kernel
theorem tab_ok {x3:Int} (h0:0≤x3) (h1:x3<256):strAt lenTab x3=((bl x3.toNat:Nat):Int):=by
 have:=List.all_eq_true.1 tab_all x3.toNat (List.mem_range.2 (by omega))
 rw[decide_eq_true_eq,show ((x3.toNat:Nat):Int)=x3 by omega]at this
 exact this
theorem len_leaf {x u x3 x4:Int} {s:Nat} (hx:0≤x) (hu:u=x / 2 ^ s) (h1:1≤u∨s=0) (h2:u<256) (h3:x3=IntKind.u8.wrap u) (h4:x4=strAt lenTab x3):(0≤x3∧x3<256)∧((bl x.toNat:Nat):Int)=s+x4∧0≤x4∧x4≤8:=by
 have hu0:0≤u:=by rw[hu];exact Int.ediv_nonneg hx (Int.le_of_lt (Int.pow_pos (by omega)))
 have e3:x3=u:=by
  rw[h3]
  unfold IntKind.wrap
  simp[IntKind.bits,IntKind.signed]
  omega
 subst e3
 rw[tab_ok hu0 h2]at h4
 have hb:=bl_le (x:=x3.toNat) (n:=8) (by omega)
 have eu:x3.toNat=x.toNat / 2 ^ s:=by
  obtain ⟨y,rfl⟩:=Int.eq_ofNat_of_zero_le hx
  rw[show ((2:Int) ^ s)=((2 ^ s:Nat):Int) by rw[Int.natCast_pow];rfl,←Int.natCast_ediv]at hu
  rw[hu,Int.toNat_natCast,Int.toNat_natCast]
 refine ⟨⟨hu0,h2⟩,?_,by omega,by omega⟩
 rcases h1 with h1 | h1
 ·rw[bl_div eu (by omega),h4]
  omega
 ·subst h1
  rw[Nat.pow_zero,Nat.div_one]at eu
  rw[h4,eu]
  omega
theorem vc_len (x:Int) (K:SV→Mem→Prop):(execF cx0 u0 Tryz.f157 64 [.int .u64 (.sym x)] (memL []) K)=((decide (x≥4294967296)=true→∀a,a=shrv .u64 x 32→(decide (a≥65536)=true→∀b,b=shrv .u64 a 16→(decide (b≥
 256)=true→∀l,l=shrv .u64 b 8→∀d,d=IntKind.wrap IntKind.u8 l→((0≤d∧d<256)∧∀m:Int,m=strAt lenTab d→∀n,n=IntKind.wrap IntKind.i64 m→∀o,o=IntKind.wrap IntKind.i64 (56+n)→K (.int .i64 (.sym o))
 Tr.leaf))∧(decide (b≥256)=false→∀e,e=IntKind.wrap IntKind.u8 b→((0≤e∧e<256)∧∀p:Int,p=strAt lenTab e→∀q,q=IntKind.wrap IntKind.i64 p→∀r,r=IntKind.wrap IntKind.i64 (48+q)→K (.int .i64 (.sym r))
 Tr.leaf)))∧(decide (a≥65536)=false→(decide (a≥256)=true→∀s,s=shrv .u64 a 8→∀f,f=IntKind.wrap IntKind.u8 s→((0≤f∧f<256)∧∀t:Int,t=strAt lenTab f→∀u,u=IntKind.wrap IntKind.i64 t→∀v,v=
 IntKind.wrap IntKind.i64 (40+u)→K (.int .i64 (.sym v)) Tr.leaf))∧(decide (a≥256)=false→∀g,g=IntKind.wrap IntKind.u8 a→((0≤g∧g<256)∧∀w:Int,w=strAt lenTab g→∀y,y=IntKind.wrap IntKind.i64 w→∀z,z=
 IntKind.wrap IntKind.i64 (32+y)→K (.int .i64 (.sym z)) Tr.leaf))))∧(decide (x≥4294967296)=false→(decide (x≥65536)=true→∀c,c=shrv .u64 x 16→(decide (c≥256)=true→∀A,A=shrv .u64 c 8→∀h,h=IntKind.wrap
 IntKind.u8 A→((0≤h∧h<256)∧∀B:Int,B=strAt lenTab h→∀C,C=IntKind.wrap IntKind.i64 B→∀D,D=IntKind.wrap IntKind.i64 (24+C)→K (.int .i64 (.sym D)) Tr.leaf))∧(decide (c≥256)=false→∀i,i=IntKind.wrap
 IntKind.u8 c→((0≤i∧i<256)∧∀E:Int,E=strAt lenTab i→∀F,F=IntKind.wrap IntKind.i64 E→∀G,G=IntKind.wrap IntKind.i64 (16+F)→K (.int .i64 (.sym G)) Tr.leaf)))∧(decide (x≥65536)=false→(decide (x≥256)=
 true→∀H,H=shrv .u64 x 8→∀j,j=IntKind.wrap IntKind.u8 H→((0≤j∧j<256)∧∀I:Int,I=strAt lenTab j→∀J,J=IntKind.wrap IntKind.i64 I→∀L,L=IntKind.wrap IntKind.i64 (8+J)→K (.int .i64 (.sym L)) Tr.leaf))∧
 (decide (x≥256)=false→∀k,k=IntKind.wrap IntKind.u8 x→((0≤k∧k<256)∧∀M:Int,M=strAt lenTab k→∀N,N=IntKind.wrap IntKind.i64 M→∀O,O=IntKind.wrap IntKind.i64 (0+N)→K (.int .i64 (.sym O)) Tr.leaf))))):=by kernel_rfl
def rLen:R0:=fun args l=>
 match args,l with
 | [.int .u64 (.sym x)],[]=>some (some (Wd x),.int .i64 (.sym ((bl x.toNat:Nat):Int)))
 | _,_=>none
theorem sh_step {x y:Int} {s k:Nat} {z:Int} (hx:0≤x) (hz:z=x / 2 ^ s) (hk:k≤64) (h:y=shrv .u64 z k):0≤z∧y=x / 2 ^ (s+k):=by
 have hz0:0≤z:=by rw[hz];exact Int.ediv_nonneg hx (Int.le_of_lt (Int.pow_pos (by omega)))
 refine ⟨hz0,?_⟩
 rw[h,shr64 hz0 hk,hz,Int.ediv_ediv_of_nonneg (Int.le_of_lt (Int.pow_pos (by omega))),←Int.pow_add]
theorem len_ok (args:List SV) (l:List (Nat×Reg)) (p:Ob) (v:SV) (h:rLen args l=some (p,v)) (hp:p.ok):∃U,execF cx0 U Tryz.f157 64 args (memL l) fun v' _=>v'=v:=by
 unfold rLen at h
 split at h
 ·rename_i x
  simp only[Option.some.injEq,Prod.mk.injEq]at h
  obtain ⟨rfl,rfl⟩:=h
  have hw:Wd x:=hp
  unfold Wd at hw
  refine ⟨u0,?_⟩
  rw[vc_len x]
  have z0:x=x / 2 ^ 0:=by rw[Int.pow_zero,Int.ediv_one]
  have d8:∀ {y z:Int},0≤z→y=shrv .u64 z 8→y=z / 256:=fun hz h=>by rw[h,shr64 hz (by omega)];rfl
  have d16:∀ {y z:Int},0≤z→y=shrv .u64 z 16→y=z / 65536:=fun hz h=>by rw[h,shr64 hz (by omega)];rfl
  have d32:∀ {y z:Int},0≤z→y=shrv .u64 z 32→y=z / 4294967296:=fun hz h=>by rw[h,shr64 hz (by omega)];rfl
  simp only[decide_eq_true_eq,decide_eq_false_iff_not,ge_iff_le,Int.not_le]
  refine ⟨fun c0=> ?_,fun c0=> ?_⟩
  ·intro x0 h0
   have a0:=sh_step hw.1 z0 (by omega) h0
   have b0:=d32 hw.1 h0
   refine ⟨fun c1=> ?_,fun c1=> ?_⟩
   ·intro x1 h1
    have a1:=sh_step hw.1 a0.2 (by omega) h1
    have b1:=d16 (by omega) h1
    refine ⟨fun c2=> ?_,fun c2=> ?_⟩
    ·intro x2 h2 x3 h3
     have a2:=sh_step hw.1 a1.2 (by omega) h2
     have b2:=d8 (by omega) h2
     have L:=len_leaf hw.1 a2.2 (by omega) (by omega) h3 rfl
     refine ⟨L.1,?_⟩
     rintro x4 h4 x5 h5 x6 h6
     rw[←h4]at L
     rw[wrap64 (by omega) (by omega)]at h5
     rw[wrap64 (by omega) (by omega)]at h6
     have e:x6=((bl x.toNat:Nat):Int):=by omega
     rw[e]
    ·intro x3 h3
     have L:=len_leaf hw.1 a1.2 (by omega) (by omega) h3 rfl
     refine ⟨L.1,?_⟩
     rintro x4 h4 x5 h5 x6 h6
     rw[←h4]at L
     rw[wrap64 (by omega) (by omega)]at h5
     rw[wrap64 (by omega) (by omega)]at h6
     have e:x6=((bl x.toNat:Nat):Int):=by omega
     rw[e]
   ·refine ⟨fun c2=> ?_,fun c2=> ?_⟩
    ·intro x2 h2 x3 h3
     have a2:=sh_step hw.1 a0.2 (by omega) h2
     have b2:=d8 (by omega) h2
     have L:=len_leaf hw.1 a2.2 (by omega) (by omega) h3 rfl
     refine ⟨L.1,?_⟩
     rintro x4 h4 x5 h5 x6 h6
     rw[←h4]at L
     rw[wrap64 (by omega) (by omega)]at h5
     rw[wrap64 (by omega) (by omega)]at h6
     have e:x6=((bl x.toNat:Nat):Int):=by omega
     rw[e]
    ·intro x3 h3
     have L:=len_leaf hw.1 a0.2 (by omega) (by omega) h3 rfl
     refine ⟨L.1,?_⟩
     rintro x4 h4 x5 h5 x6 h6
     rw[←h4]at L
     rw[wrap64 (by omega) (by omega)]at h5
     rw[wrap64 (by omega) (by omega)]at h6
     have e:x6=((bl x.toNat:Nat):Int):=by omega
     rw[e]
  ·refine ⟨fun c1=> ?_,fun c1=> ?_⟩
   ·intro x1 h1
    have a1:=sh_step hw.1 z0 (by omega) h1
    have b1:=d16 (by omega) h1
    refine ⟨fun c2=> ?_,fun c2=> ?_⟩
    ·intro x2 h2 x3 h3
     have a2:=sh_step hw.1 a1.2 (by omega) h2
     have b2:=d8 (by omega) h2
     have L:=len_leaf hw.1 a2.2 (by omega) (by omega) h3 rfl
     refine ⟨L.1,?_⟩
     rintro x4 h4 x5 h5 x6 h6
     rw[←h4]at L
     rw[wrap64 (by omega) (by omega)]at h5
     rw[wrap64 (by omega) (by omega)]at h6
     have e:x6=((bl x.toNat:Nat):Int):=by omega
     rw[e]
    ·intro x3 h3
     have L:=len_leaf hw.1 a1.2 (by omega) (by omega) h3 rfl
     refine ⟨L.1,?_⟩
     rintro x4 h4 x5 h5 x6 h6
     rw[←h4]at L
     rw[wrap64 (by omega) (by omega)]at h5
     rw[wrap64 (by omega) (by omega)]at h6
     have e:x6=((bl x.toNat:Nat):Int):=by omega
     rw[e]
   ·refine ⟨fun c2=> ?_,fun c2=> ?_⟩
    ·intro x2 h2 x3 h3
     have a2:=sh_step hw.1 z0 (by omega) h2
     have b2:=d8 (by omega) h2
     have L:=len_leaf hw.1 a2.2 (by omega) (by omega) h3 rfl
     refine ⟨L.1,?_⟩
     rintro x4 h4 x5 h5 x6 h6
     rw[←h4]at L
     rw[wrap64 (by omega) (by omega)]at h5
     rw[wrap64 (by omega) (by omega)]at h6
     have e:x6=((bl x.toNat:Nat):Int):=by omega
     rw[e]
    ·intro x3 h3
     have L:=len_leaf hw.1 z0 (by omega) (by omega) h3 rfl
     refine ⟨L.1,?_⟩
     rintro x4 h4 x5 h5 x6 h6
     rw[←h4]at L
     rw[wrap64 (by omega) (by omega)]at h5
     rw[wrap64 (by omega) (by omega)]at h6
     have e:x6=((bl x.toNat:Nat):Int):=by omega
     rw[e]
 ·cases h
def cLen:Rd Tryz.prog:=mkR mixed 157 Tryz.func157 (by decide) (by kernel_rfl) [] [.num] rLen len_ok
def cxBl:Cx Tryz.prog:= { rds:= [cLen],efs:= [],eqs:= [] }
theorem vc_bl (a0 a1 a2 a3:Int) (K:SV→Mem→Prop):(execF cxBl u0 Tryz.f125 64 [.ptr 1 (.lit 0)] (memL [(1,⟨true,w4 a0 a1 a2 a3⟩)]) K)=(((a3 !=0)=true→(Wd a3∧∀a:Int,a=((bl (Int.toNat a3):Nat):Int)→∀b,b=
 IntKind.wrap IntKind.i64 (192+a)→K (.int .i64 (.sym b)) (memL [(1,⟨true,.cells [.int .u64 (.sym a0),.int .u64 (.sym a1),.int .u64 (.sym a2),.int .u64 (.sym a3)]⟩)])))∧((a3 !=0)=false→((a2 !=0)=true→(Wd a2∧∀c:Int,
 c=((bl (Int.toNat a2):Nat):Int)→∀d,d=IntKind.wrap IntKind.i64 (128+c)→K (.int .i64 (.sym d)) (memL [(1,⟨true,.cells [.int .u64 (.sym a0),.int .u64 (.sym a1),.int .u64 (.sym a2),.int .u64 (.sym a3)]⟩)])))∧((a2 !=0)=
 false→((a1 !=0)=true→(Wd a1∧∀e:Int,e=((bl (Int.toNat a1):Nat):Int)→∀f,f=IntKind.wrap IntKind.i64 (64+e)→K (.int .i64 (.sym f)) (memL [(1,⟨true,.cells [.int .u64 (.sym a0),.int .u64 (.sym a1),.int .u64 (.sym
 a2),.int .u64 (.sym a3)]⟩)])))∧((a1 !=0)=false→(Wd a0∧∀g:Int,g=((bl (Int.toNat a0):Nat):Int)→K (.int .i64 (.sym g)) (memL [(1,⟨true,.cells [.int .u64 (.sym a0),.int .u64 (.sym a1),.int .u64 (.sym a2),.int .u64
 (.sym a3)]⟩)])))))):=by kernel_rfl
def rBl:R0:=fun args l=>
 match args,l with
 | [.ptr 1 (.lit 0)],[(1,⟨true,x⟩)]=>r4 x fun a b c d=>some (some (Wd a∧Wd b∧Wd c∧Wd d),.int .i64 (.sym ((bl (V4 a b c d).toNat:Nat):Int)))
 | _,_=>none
theorem blen_ok (args:List SV) (l:List (Nat×Reg)) (p:Ob) (v:SV) (h:rBl args l=some (p,v)) (hp:p.ok):∃U,execF cxBl U Tryz.f125 64 args (memL l) fun v' _=>v'=v:=by
 unfold rBl at h
 split at h
 ·obtain ⟨a,b,c,d,rfl,q⟩:=r4_ex h
  simp only[Option.some.injEq,Prod.mk.injEq]at q
  obtain ⟨rfl,rfl⟩:=q
  obtain ⟨ha,hb,hc,hd⟩:Wd a∧Wd b∧Wd c∧Wd d:=hp
  have n0:=V4_nonneg ha hb hc hd
  have hw:∀ {z:Int},Wd z→bl z.toNat≤64:=fun hz=>bl_le (by unfold Wd at hz;omega)
  refine ⟨u0,?_⟩
  rw[vc_bl a b c d]
  simp only[bne_iff_ne,bne_eq_false_iff_eq,ne_eq]
  refine ⟨fun c0=>⟨hd,?_⟩,fun c0=>⟨fun c1=>⟨hc,?_⟩,fun c1=>⟨fun c2=>⟨hb,?_⟩,fun c2=>⟨ha,?_⟩⟩⟩⟩
  ·rintro x0 h0 x1 h1
   have:=hw hd
   rw[wrap64 (by omega) (by omega)]at h1
   have e:bl (V4 a b c d).toNat=192+bl d.toNat:=bl_div (by unfold V4 Wd at *;omega) (by unfold Wd at *;omega)
   have f:x1=((bl (V4 a b c d).toNat:Nat):Int):=by omega
   rw[f]
  ·rintro x0 h0 x1 h1
   have:=hw hc
   rw[wrap64 (by omega) (by omega)]at h1
   have e:bl (V4 a b c d).toNat=128+bl c.toNat:=bl_div (by unfold V4 Wd at *;omega) (by unfold Wd at *;omega)
   have f:x1=((bl (V4 a b c d).toNat:Nat):Int):=by omega
   rw[f]
  ·rintro x0 h0 x1 h1
   have:=hw hb
   rw[wrap64 (by omega) (by omega)]at h1
   have e:bl (V4 a b c d).toNat=64+bl b.toNat:=bl_div (by unfold V4 Wd at *;omega) (by unfold Wd at *;omega)
   have f:x1=((bl (V4 a b c d).toNat:Nat):Int):=by omega
   rw[f]
  ·rintro x0 h0
   have e:(V4 a b c d).toNat=a.toNat:=by unfold V4 Wd at *;omega
   rw[e,←h0]
 ·cases h
def cBl:Rd Tryz.prog:=mkR mixed 125 Tryz.func125 (by decide) (by kernel_rfl) [] [.ptr 4 true] rBl blen_ok
theorem lm5_wd {r:Nat}:Wd (lm r 4):=lm_wd r 4
theorem lm5_of {a b c d e:Int} (ha:Wd a) (hb:Wd b) (hc:Wd c) (hd:Wd d) (he:Wd e) {r:Nat} (h:V4 a b c d+e*115792089237316195423570985008687907853269984665640564039457584007913129639936=(r:Int)):
  a=lm r 0∧b=lm r 1∧c=lm r 2∧d=lm r 3∧e=lm r 4:=by
 unfold V4 at h
 unfold Wd at *
 unfold lm
 simp only[Nat.pow_zero,Nat.div_one,Nat.pow_one,Nat.reducePow]
 omega
theorem lm5_val {r:Nat} (h:r<2135987035920910082395021706169552114602704522356652769947041607822219725780640550022962086936576):V4 (lm r 0) (lm r 1) (lm r 2) (lm r 3)+lm r 4*115792089237316195423570985008687907853269984665640564039457584007913129639936=(r:Int):=by
 unfold V4 lm
 simp only[Nat.pow_zero,Nat.div_one,Nat.pow_one,Nat.reducePow]
 omega
def m5 (x:Int):Nat:=(x%2135987035920910082395021706169552114602704522356652769947041607822219725780640550022962086936576).toNat
theorem m5_lt (x:Int):m5 x<2135987035920910082395021706169552114602704522356652769947041607822219725780640550022962086936576:=by unfold m5;omega
theorem m5_of {x y t:Int} (h:x=y+2135987035920910082395021706169552114602704522356652769947041607822219725780640550022962086936576*t) (h0:0≤x) (h1:x<2135987035920910082395021706169552114602704522356652769947041607822219725780640550022962086936576):x=(m5 y:Int):=by unfold m5;omega
def NegP (a0 a1 a2 a3 h:Int) (K:Int→Int→Int→Int→Int→Prop):Prop:=
 SubS 0 a0 0 fun s0 k=>SubS 0 a1 k fun s1 k=>SubS 0 a2 k fun s2 k=>SubS 0 a3 k fun s3 k=>SubS 0 h k fun s4 _=>K s0 s1 s2 s3 s4
theorem negp_eq {a0 a1 a2 a3 h s0 s1 s2 s3 s4 k0 k1 k2 k3 k4:Int} (e0:s0=0-a0-0+k0*18446744073709551616) (e1:s1=0-a1-k0+k1*18446744073709551616) (e2:s2=0-a2-k1+k2*18446744073709551616)
  (e3:s3=0-a3-k2+k3*18446744073709551616) (e4:s4=0-h-k3+k4*18446744073709551616):
  V4 s0 s1 s2 s3+s4*115792089237316195423570985008687907853269984665640564039457584007913129639936= -(V4 a0 a1 a2 a3+h*115792089237316195423570985008687907853269984665640564039457584007913129639936)+2135987035920910082395021706169552114602704522356652769947041607822219725780640550022962086936576*k4:=by
 unfold V4
 omega
theorem V5_bd {a b c d e:Int} (ha:Wd a) (hb:Wd b) (hc:Wd c) (hd:Wd d) (he:Wd e):0≤V4 a b c d+e*115792089237316195423570985008687907853269984665640564039457584007913129639936∧V4 a b c d+e*115792089237316195423570985008687907853269984665640564039457584007913129639936<2135987035920910082395021706169552114602704522356652769947041607822219725780640550022962086936576:=by
 unfold V4 Wd at *
 omega
theorem NegP.of {a0 a1 a2 a3 h:Int} {K:Int→Int→Int→Int→Int→Prop} (ha:Wd a0∧Wd a1∧Wd a2∧Wd a3) (hh:Wd h) (hK:∀r,r=m5 (-(V4 a0 a1 a2 a3+h*115792089237316195423570985008687907853269984665640564039457584007913129639936))→K (lm r 0) (lm r 1) (lm r 2) (lm r 3) (lm r 4)):NegP a0 a1 a2 a3 h K:=by
 obtain ⟨ha0,ha1,ha2,ha3⟩:=ha
 refine SubS.of wd0 ha0 (Int.le_refl _) (by decide) fun s0 k0 c0 c1 c2 c3=> ?_
 refine SubS.of wd0 ha1 c1 c2 fun s1 k1 d0 d1 d2 d3=> ?_
 refine SubS.of wd0 ha2 d1 d2 fun s2 k2 e0 e1 e2 e3=> ?_
 refine SubS.of wd0 ha3 e1 e2 fun s3 k3 f0 f1 f2 f3=> ?_
 refine SubS.of wd0 hh f1 f2 fun s4 k4 g0 g1 g2 g3=> ?_
 have e:=negp_eq c3 d3 e3 f3 g3
 obtain ⟨b0,b1⟩:=V5_bd c0 d0 e0 f0 g0
 obtain ⟨q0,q1,q2,q3,q4⟩:=lm5_of c0 d0 e0 f0 g0 (m5_of e b0 b1)
 rw[q0,q1,q2,q3,q4]
 exact hK _ rfl
theorem vc_negl (a0 a1 a2 a3 h:Int) (K:SV→Mem→Prop):(execF cxAdd u0 Tryz.f129 64 [.ptr 1 (.lit 0),.int .u64 (.sym h)] (memL [(1,⟨false,w4 a0 a1 a2 a3⟩)]) K)=(NegP a0 a1 a2 a3 h fun a b c d e=>K (.int .u64 (.sym e)) (memL
 [(1,⟨false,w4 a b c d⟩)])):=by kernel_rfl
def gNl:G0:=fun args l K=>
 match args,l with
 | [.ptr 1 (.lit 0),.int .u64 (.sym s)],[(1,⟨false,z⟩)]=>c4 z fun z0 z1 z2 z3=>(((Wd z0∧Wd z1∧Wd z2∧Wd z3)∧Wd s)∧∀r,r=m5 (-(V4 z0 z1 z2 z3+s*115792089237316195423570985008687907853269984665640564039457584007913129639936))→K (.int .u64 (.sym (lm r 4))) (memL [(1,⟨false,e4 r⟩)]))
 | _,_=>False
theorem nl_good:Good gNl:=by
 constructor
 ·intro args l K K' hk h
  unfold gNl at h ⊢
  split at h
  ·exact c4_mono (fun _ _ _ _ h=>⟨h.1,fun r hr=>hk _ _ (h.2 r hr)⟩) h
  ·exact h.elim
 ·intro args l K h
  unfold gNl at h
  split at h
  ·obtain ⟨_,_,_,_,_,h⟩:=c4_ex h
   exact ⟨_,_,h.2 _ rfl⟩
  ·exact h.elim
theorem nl_ok (args:List SV) (l:List (Nat×Reg)) (K:SV→Mem→Prop) (hup:KUp K) (h:gNl args l K):∃U,execF cxAdd U Tryz.f129 64 args (memL l) K:=by
 unfold gNl at h
 split at h
 ·rename_i s zz
  obtain ⟨z0,z1,z2,z3,rfl,q0⟩:=c4_ex h
  refine ⟨u0,?_⟩
  rw[vc_negl z0 z1 z2 z3 s]
  exact NegP.of q0.1.1 q0.1.2 q0.2
 ·exact h.elim
def kNl:Ef Tryz.prog:=mkE mixed 129 Tryz.func129 (by decide) (by kernel_rfl) [] [.ptr 4 false,.num] gNl nl_good nl_ok
theorem vc_m1 (a b c:Int) (K:SV→Mem→Prop):execF cxAr u0 Tryz.f166 64 [.int .u64 (.sym a),.int .u64 (.sym b),.int .u64 (.sym c)] (memL []) K=(MulS a b fun h l=>AddS l c 0 fun l k=>AddS h 0 k fun h _=>K (.tup [.int .u64
 (.sym h),.int .u64 (.sym l)]) (memL [])):=by kernel_rfl
def m1h (a b c:Int):Int:=sumLo (mulHi a b) 0 (sumHi (mulLo a b) c 0)
def m1l (a b c:Int):Int:=sumLo (mulLo a b) c 0
theorem m1_eq {a b c:Int} (ha:Wd a) (hb:Wd b) (hc:Wd c):m1h a b c*18446744073709551616+m1l a b c=a*b+c:=by
 have h0:0≤a*b:=Int.mul_nonneg ha.1 hb.1
 have h1:a*b≤18446744073709551615*b:=Int.mul_le_mul_of_nonneg_right (by have:=ha.2;omega) hb.1
 unfold m1h m1l sumLo sumHi mulHi mulLo
 unfold Wd at *
 omega
theorem m1h_wd (a b c:Int):Wd (m1h a b c):=sumLo_wd _ _ _
theorem m1l_wd (a b c:Int):Wd (m1l a b c):=sumLo_wd _ _ _
def rM1:R0:=fun args l=>
 match args,l with
 | [.int .u64 (.sym a),.int .u64 (.sym b),.int .u64 (.sym c)],[]=>some (some (Wd a∧Wd b∧Wd c),.tup [.int .u64 (.sym (m1h a b c)),.int .u64 (.sym (m1l a b c))])
 | _,_=>none
theorem m1_ok (args:List SV) (l:List (Nat×Reg)) (p:Ob) (v:SV) (h:rM1 args l=some (p,v)) (hp:p.ok):∃U,execF cxAr U Tryz.f166 64 args (memL l) fun v' _=>v'=v:=by
 refine ⟨u0,?_⟩
 unfold rM1 at h
 split at h
 ·rename_i a b c
  simp only[Option.some.injEq,Prod.mk.injEq]at h
  obtain ⟨rfl,rfl⟩:=h
  obtain ⟨ha,hb,hc⟩:Wd a∧Wd b∧Wd c:=hp
  rw[vc_m1]
  refine ⟨⟨ha,hb⟩,?_⟩
  rintro _ rfl _ rfl
  refine ⟨⟨mulLo_wd _ _,hc,by decide,by decide⟩,?_⟩
  rintro _ rfl _ rfl
  refine ⟨⟨mulHi_wd ha hb,wd0,sumHi_le (mulLo_wd _ _) hc (by decide) (by decide)⟩,?_⟩
  rintro _ rfl _ rfl
  rfl
 ·cases h
def cM1:Rd Tryz.prog:=mkR mixed 166 Tryz.func166 (by decide) (by kernel_rfl) [] [.num,.num,.num] rM1 m1_ok
def cxMw:Cx Tryz.prog:= { rds:= [cMul64,cM1],efs:= [kNl],eqs:= [] }
def MwP (a0 a1 a2 a3 y:Int) (K:Int→Int→Int→Int→Int→Prop):Prop:=
 ∀x0,x0=shrv .i64 y 63→∀x1,x1=bxor .i64 y x0→∀x2,x2=IntKind.i64.wrap (x1-x0)→∀x3,x3=IntKind.u64.wrap x2→(Wd a0∧Wd x3)∧∀x4,x4=mulHi a0 x3→∀x5,x5=mulLo a0 x3→
  (Wd a1∧Wd x3∧Wd x4)∧∀x6,x6=m1h a1 x3 x4→∀x7,x7=m1l a1 x3 x4→(Wd a2∧Wd x3∧Wd x6)∧∀x8,x8=m1h a2 x3 x6→∀x9,x9=m1l a2 x3 x6→(Wd a3∧Wd x3∧Wd x8)∧∀x10,x10=m1h a3 x3 x8→∀x11,x11=m1l a3 x3 x8→
  (decide (y<0)=true→((Wd x5∧Wd x7∧Wd x9∧Wd x11)∧Wd x10)∧∀r,r=m5 (-(V4 x5 x7 x9 x11+x10*115792089237316195423570985008687907853269984665640564039457584007913129639936))→K (lm r 0) (lm r 1) (lm r 2) (lm r 3) (lm r 4))∧
  (decide (y<0)=false→K x5 x7 x9 x11 x10)
theorem vc_mw0 (z0 z1 z2 z3 a0 a1 a2 a3 y:Int) (K:SV→Mem→Prop):(execF cxMw u0 Tryz.f158 64 [.ptr 1 (.lit 0),.ptr 9 (.lit 0),.int .i64 (.sym y)] (memL [(1,⟨false,w4 z0 z1 z2 z3⟩),(9,⟨true,w4 a0 a1 a2 a3⟩)]) K)=(MwP a0 a1 a2
 a3 y fun a b c d e=>K (.int .u64 (.sym e)) (memL [(1,⟨false,w4 a b c d⟩),(9,⟨true,w4 a0 a1 a2 a3⟩)])):=by kernel_rfl
theorem vc_mw1 (z0 z1 z2 z3 y:Int) (K:SV→Mem→Prop):(execF cxMw u0 Tryz.f158 64 [.ptr 1 (.lit 0),.ptr 1 (.lit 0),.int .i64 (.sym y)] (memL [(1,⟨false,w4 z0 z1 z2 z3⟩)]) K)=(MwP z0 z1 z2 z3 y fun a b c d e=>K (.int .u64 (.sym
 e)) (memL [(1,⟨false,w4 a b c d⟩)])):=by kernel_rfl
def I64 (y:Int):Prop:= -9223372036854775808≤y∧y<9223372036854775808
theorem shr63i {y:Int} (h:I64 y):shrv .i64 y 63=if y<0 then -1 else 0:=by
 unfold shrv
 rw[show min 63 IntKind.i64.bits=63 by decide,Int.fdiv_eq_ediv_of_nonneg _ (by decide)]
 unfold I64 at h
 split<;>omega
theorem bxor_i64 {y:Int} (h:I64 y):bxor .i64 y 0=y∧bxor .i64 y (-1)= -y-1:=by
 unfold I64 at h
 have e1:(BitVec.ofInt IntKind.i64.bits y).toNat=(y%18446744073709551616).toNat:=by
  simp only[IntKind.bits,BitVec.toNat_ofInt]
  rfl
 have w:∀z:Int,-9223372036854775808≤z→z<9223372036854775808→IntKind.i64.wrap (((z%18446744073709551616).toNat:Nat):Int)=z:=fun z h0 h1=>by
  show (if (true && decide (((z%18446744073709551616).toNat:Int)%18446744073709551616≥9223372036854775808))=true then ((z%18446744073709551616).toNat:Int)%18446744073709551616-18446744073709551616 else ((z%18446744073709551616).toNat:Int)%18446744073709551616)=z
  simp only[Bool.true_and,decide_eq_true_eq]
  split<;>omega
 constructor
 ·unfold bxor
  rw[BitVec.toNat_xor,e1,show (BitVec.ofInt IntKind.i64.bits (0:Int)).toNat=0 by decide,Nat.xor_zero]
  exact w y h.1 h.2
 ·have e2:bxor .i64 y (-1)=IntKind.i64.wrap ((((-y-1)%18446744073709551616).toNat:Nat):Int):=by
   have key:∀b:BitVec 64,(b ^^^ BitVec.ofInt 64 (-1)).toNat=2 ^ 64-1-b.toNat:=fun b=>by
    rw[show BitVec.ofInt 64 (-1:Int)=BitVec.allOnes 64 by decide,BitVec.xor_allOnes,BitVec.toNat_not]
   have e3:(BitVec.ofInt 64 y).toNat=(y%18446744073709551616).toNat:=e1
   show IntKind.i64.wrap (((BitVec.ofInt 64 y ^^^ BitVec.ofInt 64 (-1)).toNat:Nat):Int)=_
   rw[key,e3]
   congr 2
   omega
  rw[e2]
  exact w _ (by omega) (by omega)
theorem abs_of {y x0 x1 x2 x3:Int} (h:I64 y) (h0:x0=shrv .i64 y 63) (h1:x1=bxor .i64 y x0) (h2:x2=IntKind.i64.wrap (x1-x0)) (h3:x3=IntKind.u64.wrap x2):x3=(y.natAbs:Int):=by
 obtain ⟨b0,b1⟩:=bxor_i64 h
 rw[shr63i h]at h0
 obtain ⟨t,ht⟩:=wrap64_ex (x1-x0)
 rw[ht]at h2
 rw[wu64]at h3
 unfold I64 at h
 split at h0
 ·rw[h0,b1]at h1
  omega
 ·rw[h0,b0]at h1
  omega
theorem mw_eq {a0 a1 a2 a3 w h0 l0 h1 l1 h2 l2 h3 l3:Int} (e0:h0*18446744073709551616+l0=a0*w) (e1:h1*18446744073709551616+l1=a1*w+h0) (e2:h2*18446744073709551616+l2=a2*w+h1) (e3:h3*18446744073709551616+l3=a3*w+h2):
  V4 l0 l1 l2 l3+h3*115792089237316195423570985008687907853269984665640564039457584007913129639936=V4 a0 a1 a2 a3*w:=by
 unfold V4
 simp only[Int.add_mul]
 rw[Int.mul_right_comm a1,Int.mul_right_comm a2,Int.mul_right_comm a3]
 omega
theorem mulHL {x y:Int}:mulHi x y*18446744073709551616+mulLo x y=x*y:=by unfold mulHi mulLo;omega
theorem MwP.of {a0 a1 a2 a3 y:Int} {K:Int→Int→Int→Int→Int→Prop} (ha:Wd a0∧Wd a1∧Wd a2∧Wd a3) (hy:I64 y) (hK:∀r,r=m5 (V4 a0 a1 a2 a3*y)→K (lm r 0) (lm r 1) (lm r 2) (lm r 3) (lm r 4)):MwP a0 a1 a2 a3 y K:=by
 obtain ⟨ha0,ha1,ha2,ha3⟩:=ha
 intro x0 h0 x1 h1 x2 h2 x3 h3
 have e3:=abs_of hy h0 h1 h2 h3
 have w3:Wd x3:=by unfold I64 at hy;unfold Wd;omega
 refine ⟨⟨ha0,w3⟩,?_⟩
 rintro x4 h4 x5 h5
 have w4':Wd x4:=by rw[h4];exact mulHi_wd ha0 w3
 have w5:Wd x5:=by rw[h5];exact mulLo_wd _ _
 refine ⟨⟨ha1,w3,w4'⟩,?_⟩
 rintro x6 h6 x7 h7
 have w6:Wd x6:=by rw[h6];exact m1h_wd _ _ _
 have w7:Wd x7:=by rw[h7];exact m1l_wd _ _ _
 refine ⟨⟨ha2,w3,w6⟩,?_⟩
 rintro x8 h8 x9 h9
 have w8:Wd x8:=by rw[h8];exact m1h_wd _ _ _
 have w9:Wd x9:=by rw[h9];exact m1l_wd _ _ _
 refine ⟨⟨ha3,w3,w8⟩,?_⟩
 rintro x10 h10 x11 h11
 have w10:Wd x10:=by rw[h10];exact m1h_wd _ _ _
 have w11:Wd x11:=by rw[h11];exact m1l_wd _ _ _
 have e:=mw_eq (w:=x3) (h0:=x4) (l0:=x5) (h1:=x6) (l1:=x7) (h2:=x8) (l2:=x9) (h3:=x10) (l3:=x11) (by rw[h4,h5];exact mulHL) (by rw[h6,h7];exact m1_eq ha1 w3 w4') (by rw[h8,h9];exact m1_eq ha2 w3 w6) (by rw[h10,h11];exact m1_eq ha3 w3 w8)
 obtain ⟨b0,b1⟩:=V5_bd w5 w7 w9 w11 w10
 refine ⟨fun hn=> ?_,fun hn=> ?_⟩
 ·simp only[decide_eq_true_eq]at hn
  refine ⟨⟨⟨w5,w7,w9,w11⟩,w10⟩,fun r hr=>hK r ?_⟩
  rw[hr,e,e3,show ((y.natAbs:Nat):Int)= -y by omega,Int.mul_neg,Int.neg_neg]
 ·simp only[decide_eq_false_iff_not]at hn
  have e4:x3=y:=by omega
  rw[e4]at e
  have hz:V4 x5 x7 x9 x11+x10*115792089237316195423570985008687907853269984665640564039457584007913129639936=((m5 (V4 a0 a1 a2 a3*y):Nat):Int):=by
   unfold m5
   omega
  obtain ⟨q0,q1,q2,q3,q4⟩:=lm5_of w5 w7 w9 w11 w10 hz
  rw[q0,q1,q2,q3,q4]
  exact hK _ rfl
def gMw:G0:=fun args l K=>
 match args,l with
 | [.ptr 1 (.lit 0),.ptr 9 (.lit 0),.int .i64 (.sym s)],[(1,⟨false,z⟩),(9,⟨true,x⟩)]=>c4 z fun _ _ _ _=>c4 x fun a0 a1 a2 a3=>(((Wd a0∧Wd a1∧Wd a2∧Wd a3)∧I64 s)∧∀r,r=m5 (V4 a0 a1 a2 a3*s)→K (.int .u64 (.sym (lm r 4))) (memL [(1,⟨false,e4 r⟩),(9,⟨true,w4 a0 a1 a2 a3⟩)]))
 | [.ptr 1 (.lit 0),.ptr 1 (.lit 0),.int .i64 (.sym s)],[(1,⟨false,z⟩)]=>c4 z fun z0 z1 z2 z3=>(((Wd z0∧Wd z1∧Wd z2∧Wd z3)∧I64 s)∧∀r,r=m5 (V4 z0 z1 z2 z3*s)→K (.int .u64 (.sym (lm r 4))) (memL [(1,⟨false,e4 r⟩)]))
 | _,_=>False
theorem mw_good:Good gMw:=by
 constructor
 ·intro args l K K' hk h
  unfold gMw at h ⊢
  split at h
  ·exact c4_mono (fun _ _ _ _ h=>c4_mono (fun _ _ _ _ h=>⟨h.1,fun r hr=>hk _ _ (h.2 r hr)⟩) h) h
  ·exact c4_mono (fun _ _ _ _ h=>⟨h.1,fun r hr=>hk _ _ (h.2 r hr)⟩) h
  ·exact h.elim
 ·intro args l K h
  unfold gMw at h
  split at h
  ·obtain ⟨_,_,_,_,_,h⟩:=c4_ex h
   obtain ⟨_,_,_,_,_,h⟩:=c4_ex h
   exact ⟨_,_,h.2 _ rfl⟩
  ·obtain ⟨_,_,_,_,_,h⟩:=c4_ex h
   exact ⟨_,_,h.2 _ rfl⟩
  ·exact h.elim
theorem mw_ok (args:List SV) (l:List (Nat×Reg)) (K:SV→Mem→Prop) (hup:KUp K) (h:gMw args l K):∃U,execF cxMw U Tryz.f158 64 args (memL l) K:=by
 unfold gMw at h
 split at h
 ·rename_i s zz aa
  obtain ⟨z0,z1,z2,z3,rfl,q0⟩:=c4_ex h
  obtain ⟨a0,a1,a2,a3,rfl,q1⟩:=c4_ex q0
  refine ⟨u0,?_⟩
  rw[vc_mw0 z0 z1 z2 z3 a0 a1 a2 a3 s]
  exact MwP.of q1.1.1 q1.1.2 q1.2
 ·rename_i s zz
  obtain ⟨z0,z1,z2,z3,rfl,q0⟩:=c4_ex h
  refine ⟨u0,?_⟩
  rw[vc_mw1 z0 z1 z2 z3 s]
  exact MwP.of q0.1.1 q0.1.2 q0.2
 ·exact h.elim
def kMw:Ef Tryz.prog:=mkE mixed 158 Tryz.func158 (by decide) (by kernel_rfl) [] [.ptr 4 false,.ptr 4 true,.num] gMw mw_good mw_ok
def cxLc:Cx Tryz.prog:= { rds:= [cAdd],efs:= [kMw],eqs:= [] }
def LcP (a0 a1 a2 a3 b0 b1 b2 b3 y s:Int) (K:Int→Int→Int→Int→Int→Nat→Prop):Prop:=
 ((Wd b0∧Wd b1∧Wd b2∧Wd b3)∧I64 s)∧∀r0,r0=m5 (V4 b0 b1 b2 b3*s)→((Wd a0∧Wd a1∧Wd a2∧Wd a3)∧I64 y)∧∀r1,r1=m5 (V4 a0 a1 a2 a3*y)→
  AddS (lm r1 0) (lm r0 0) 0 fun s0 k=>AddS (lm r1 1) (lm r0 1) k fun s1 k=>AddS (lm r1 2) (lm r0 2) k fun s2 k=>AddS (lm r1 3) (lm r0 3) k fun s3 k=>AddS (lm r1 4) (lm r0 4) k fun s4 _=>K s0 s1 s2 s3 s4 r0
theorem lc_eq {a0 a1 a2 a3 a4 b0 b1 b2 b3 b4 s0 s1 s2 s3 s4 k0 k1 k2 k3 k4:Int} (e0:s0+k0*18446744073709551616=a0+b0+0) (e1:s1+k1*18446744073709551616=a1+b1+k0)
  (e2:s2+k2*18446744073709551616=a2+b2+k1) (e3:s3+k3*18446744073709551616=a3+b3+k2) (e4:s4+k4*18446744073709551616=a4+b4+k3):
  (V4 s0 s1 s2 s3+s4*115792089237316195423570985008687907853269984665640564039457584007913129639936)+k4*2135987035920910082395021706169552114602704522356652769947041607822219725780640550022962086936576=(V4 a0 a1 a2 a3+a4*115792089237316195423570985008687907853269984665640564039457584007913129639936)+(V4 b0 b1 b2 b3+b4*115792089237316195423570985008687907853269984665640564039457584007913129639936):=by
 unfold V4
 omega
theorem m5_add {u v z k:Int} (h:z+k*2135987035920910082395021706169552114602704522356652769947041607822219725780640550022962086936576=(m5 u:Int)+(m5 v:Int)) (h0:0≤z) (h1:z<2135987035920910082395021706169552114602704522356652769947041607822219725780640550022962086936576):z=((m5 (u+v):Nat):Int):=by
 unfold m5 at *
 omega
theorem LcP.of {a0 a1 a2 a3 b0 b1 b2 b3 y s:Int} {K:Int→Int→Int→Int→Int→Nat→Prop} (ha:Wd a0∧Wd a1∧Wd a2∧Wd a3) (hb:Wd b0∧Wd b1∧Wd b2∧Wd b3) (hy:I64 y) (hs:I64 s)
  (hK:∀r r0,r=m5 (V4 a0 a1 a2 a3*y+V4 b0 b1 b2 b3*s)→K (lm r 0) (lm r 1) (lm r 2) (lm r 3) (lm r 4) r0):LcP a0 a1 a2 a3 b0 b1 b2 b3 y s K:=by
 refine ⟨⟨hb,hs⟩,fun r0 h0=>⟨⟨ha,hy⟩,fun r1 h1=> ?_⟩⟩
 have W:=lm_wd
 refine AddS.of (W _ _) (W _ _) (Int.le_refl _) (by decide) fun s0 k0 c0 c1 c2 c3=> ?_
 refine AddS.of (W _ _) (W _ _) c1 c2 fun s1 k1 d0 d1 d2 d3=> ?_
 refine AddS.of (W _ _) (W _ _) d1 d2 fun s2 k2 e0 e1 e2 e3=> ?_
 refine AddS.of (W _ _) (W _ _) e1 e2 fun s3 k3 f0 f1 f2 f3=> ?_
 refine AddS.of (W _ _) (W _ _) f1 f2 fun s4 k4 g0 g1 g2 g3=> ?_
 have e:=lc_eq c3 d3 e3 f3 g3
 rw[lm5_val (by rw[h1];exact m5_lt _),lm5_val (by rw[h0];exact m5_lt _),h0,h1]at e
 obtain ⟨b0',b1'⟩:=V5_bd c0 d0 e0 f0 g0
 obtain ⟨q0,q1,q2,q3,q4⟩:=lm5_of c0 d0 e0 f0 g0 (m5_add e b0' b1')
 rw[q0,q1,q2,q3,q4]
 exact hK _ _ rfl
theorem vc_lc0 (z0 z1 z2 z3 a0 a1 a2 a3 b0 b1 b2 b3 y s:Int) (K:SV→Mem→Prop):(execF cxLc u0 Tryz.f128 64 [.ptr 1 (.lit 0),.ptr 9 (.lit 0),.int .i64 (.sym y),.ptr 17 (.lit 0),.int .i64 (.sym s)] (memL [(1,⟨false,w4 z0 z1 z2
 z3⟩),(9,⟨true,w4 a0 a1 a2 a3⟩),(17,⟨true,w4 b0 b1 b2 b3⟩)]) K)=(LcP a0 a1 a2 a3 b0 b1 b2 b3 y s fun a b c d e f=>K (.int .u64 (.sym e)) (memL [(1,⟨false,w4 a b c d⟩),(9,⟨true,w4 a0 a1 a2 a3⟩),(17,⟨true,w4 b0 b1 b2 b3⟩),
 (521,⟨false,e4 f⟩)])):=by kernel_rfl
theorem vc_lc1 (z0 z1 z2 z3 a0 a1 a2 a3 y s:Int) (K:SV→Mem→Prop):(execF cxLc u0 Tryz.f128 64 [.ptr 1 (.lit 0),.ptr 9 (.lit 0),.int .i64 (.sym y),.ptr 1 (.lit 0),.int .i64 (.sym s)] (memL [(1,⟨false,w4 z0 z1 z2 z3⟩),(9,
 ⟨true,w4 a0 a1 a2 a3⟩)]) K)=(LcP a0 a1 a2 a3 z0 z1 z2 z3 y s fun a b c d e f=>K (.int .u64 (.sym e)) (memL [(1,⟨false,w4 a b c d⟩),(9,⟨true,w4 a0 a1 a2 a3⟩),(521,⟨false,e4 f⟩)])):=by kernel_rfl
theorem vc_lc2 (z0 z1 z2 z3 b0 b1 b2 b3 y s:Int) (K:SV→Mem→Prop):(execF cxLc u0 Tryz.f128 64 [.ptr 1 (.lit 0),.ptr 1 (.lit 0),.int .i64 (.sym y),.ptr 9 (.lit 0),.int .i64 (.sym s)] (memL [(1,⟨false,w4 z0 z1 z2 z3⟩),(9,
 ⟨true,w4 b0 b1 b2 b3⟩)]) K)=(LcP z0 z1 z2 z3 b0 b1 b2 b3 y s fun a b c d e f=>K (.int .u64 (.sym e)) (memL [(1,⟨false,w4 a b c d⟩),(9,⟨true,w4 b0 b1 b2 b3⟩),(521,⟨false,e4 f⟩)])):=by kernel_rfl
def gLc:G0:=fun args l K=>
 match args,l with
 | [.ptr 1 (.lit 0),.ptr 9 (.lit 0),.int .i64 (.sym y),.ptr 17 (.lit 0),.int .i64 (.sym s)],[(1,⟨false,rz⟩),(9,⟨true,ra⟩),(17,⟨true,rb⟩)]=>c4 rz fun _ _ _ _=>c4 ra fun a0 a1 a2 a3=>c4 rb fun b0 b1 b2 b3=>((((Wd a0∧Wd a1∧Wd a2∧Wd a3)∧(Wd b0∧Wd b1∧Wd b2∧Wd b3))∧I64 y∧I64 s)∧∀r,r=m5 (V4 a0 a1 a2 a3*y+V4 b0 b1 b2 b3*s)→K (.int .u64 (.sym (lm r 4))) (memL [(1,⟨false,e4 r⟩),(9,⟨true,w4 a0 a1 a2 a3⟩),(17,⟨true,w4 b0 b1 b2 b3⟩)]))
 | [.ptr 1 (.lit 0),.ptr 9 (.lit 0),.int .i64 (.sym y),.ptr 1 (.lit 0),.int .i64 (.sym s)],[(1,⟨false,rz⟩),(9,⟨true,ra⟩)]=>c4 rz fun z0 z1 z2 z3=>c4 ra fun a0 a1 a2 a3=>((((Wd a0∧Wd a1∧Wd a2∧Wd a3)∧(Wd z0∧Wd z1∧Wd z2∧Wd z3))∧I64 y∧I64 s)∧∀r,r=m5 (V4 a0 a1 a2 a3*y+V4 z0 z1 z2 z3*s)→K (.int .u64 (.sym (lm r 4))) (memL [(1,⟨false,e4 r⟩),(9,⟨true,w4 a0 a1 a2 a3⟩)]))
 | [.ptr 1 (.lit 0),.ptr 1 (.lit 0),.int .i64 (.sym y),.ptr 9 (.lit 0),.int .i64 (.sym s)],[(1,⟨false,rz⟩),(9,⟨true,rb⟩)]=>c4 rz fun z0 z1 z2 z3=>c4 rb fun b0 b1 b2 b3=>((((Wd z0∧Wd z1∧Wd z2∧Wd z3)∧(Wd b0∧Wd b1∧Wd b2∧Wd b3))∧I64 y∧I64 s)∧∀r,r=m5 (V4 z0 z1 z2 z3*y+V4 b0 b1 b2 b3*s)→K (.int .u64 (.sym (lm r 4))) (memL [(1,⟨false,e4 r⟩),(9,⟨true,w4 b0 b1 b2 b3⟩)]))
 | _,_=>False
theorem lc_good:Good gLc:=by
 constructor
 ·intro args l K K' hk h
  unfold gLc at h ⊢
  split at h
  ·exact c4_mono (fun _ _ _ _ h=>c4_mono (fun _ _ _ _ h=>c4_mono (fun _ _ _ _ h=>⟨h.1,fun r hr=>hk _ _ (h.2 r hr)⟩) h) h) h
  ·exact c4_mono (fun _ _ _ _ h=>c4_mono (fun _ _ _ _ h=>⟨h.1,fun r hr=>hk _ _ (h.2 r hr)⟩) h) h
  ·exact c4_mono (fun _ _ _ _ h=>c4_mono (fun _ _ _ _ h=>⟨h.1,fun r hr=>hk _ _ (h.2 r hr)⟩) h) h
  ·exact h.elim
 ·intro args l K h
  unfold gLc at h
  split at h
  ·obtain ⟨_,_,_,_,_,h⟩:=c4_ex h
   obtain ⟨_,_,_,_,_,h⟩:=c4_ex h
   obtain ⟨_,_,_,_,_,h⟩:=c4_ex h
   exact ⟨_,_,h.2 _ rfl⟩
  ·obtain ⟨_,_,_,_,_,h⟩:=c4_ex h
   obtain ⟨_,_,_,_,_,h⟩:=c4_ex h
   exact ⟨_,_,h.2 _ rfl⟩
  ·obtain ⟨_,_,_,_,_,h⟩:=c4_ex h
   obtain ⟨_,_,_,_,_,h⟩:=c4_ex h
   exact ⟨_,_,h.2 _ rfl⟩
  ·exact h.elim
theorem lc_ok (args:List SV) (l:List (Nat×Reg)) (K:SV→Mem→Prop) (hup:KUp K) (h:gLc args l K):∃U,execF cxLc U Tryz.f128 64 args (memL l) K:=by
 unfold gLc at h
 split at h
 ·rename_i y s rz ra rb
  obtain ⟨z0,z1,z2,z3,rfl,q0⟩:=c4_ex h
  obtain ⟨a0,a1,a2,a3,rfl,q1⟩:=c4_ex q0
  obtain ⟨b0,b1,b2,b3,rfl,q2⟩:=c4_ex q1
  refine ⟨u0,?_⟩
  rw[vc_lc0 z0 z1 z2 z3 a0 a1 a2 a3 b0 b1 b2 b3 y s]
  exact LcP.of q2.1.1.1 q2.1.1.2 q2.1.2.1 q2.1.2.2 fun r r0 hr=>hup.le (memL_snoc rfl (by simp)) (q2.2 r hr)
 ·rename_i y s rz ra
  obtain ⟨z0,z1,z2,z3,rfl,q0⟩:=c4_ex h
  obtain ⟨a0,a1,a2,a3,rfl,q1⟩:=c4_ex q0
  refine ⟨u0,?_⟩
  rw[vc_lc1 z0 z1 z2 z3 a0 a1 a2 a3 y s]
  exact LcP.of q1.1.1.1 q1.1.1.2 q1.1.2.1 q1.1.2.2 fun r r0 hr=>hup.le (memL_snoc rfl (by simp)) (q1.2 r hr)
 ·rename_i y s rz rb
  obtain ⟨z0,z1,z2,z3,rfl,q0⟩:=c4_ex h
  obtain ⟨b0,b1,b2,b3,rfl,q1⟩:=c4_ex q0
  refine ⟨u0,?_⟩
  rw[vc_lc2 z0 z1 z2 z3 b0 b1 b2 b3 y s]
  exact LcP.of q1.1.1.1 q1.1.1.2 q1.1.2.1 q1.1.2.2 fun r r0 hr=>hup.le (memL_snoc rfl (by simp)) (q1.2 r hr)
 ·exact h.elim
def kLc:Ef Tryz.prog:=mkE mixed 128 Tryz.func128 (by decide) (by kernel_rfl) [] [.ptr 4 false,.ptr 4 true,.num,.ptr 4 true,.num] gLc lc_good lc_ok
def cxMr:Cx Tryz.prog:= { rds:= [cM0,cM2,cStm,cSub,cAdd],efs:= [],eqs:= [] }
theorem vc_mr (z0 z1 z2 z3 h:Int) (K:SV→Mem→Prop):(execF cxMr u0 Tryz.f159 64 [.ptr 1 (.lit 0),.ptr 1 (.lit 0),.int .u64 (.sym h)] (memL [(1,⟨false,w4 z0 z1 z2 z3⟩)]) K)=(∀p,p=band .u64 h (9223372036854775808:Int)→∀
 x1,x1=band .u64 h (9223372036854775807:Int)→∀a,a=IntKind.wrap IntKind.u64 (z0*9786893198990664585)→((Wd a∧Wd (4332616871279656263:Int)∧Wd z0)∧∀R,R=m0v a (4332616871279656263:Int) z0→((Wd a∧Wd
 (10917124144477883021:Int)∧Wd z1∧Wd R)∧∀S,S=m2h a (10917124144477883021:Int) z1 R→∀j,j=m2l a (10917124144477883021:Int) z1 R→((Wd a∧Wd (13281191951274694749:Int)∧Wd z2∧Wd S)∧∀T,T=m2h a
 (13281191951274694749:Int) z2 S→∀V,V=m2l a (13281191951274694749:Int) z2 S→((Wd a∧Wd (3486998266802970665:Int)∧Wd z3∧Wd T)∧∀x8,x8=m2h a (3486998266802970665:Int) z3 T→∀X,X=m2l a (3486998266802970665:Int)
 z3 T→∀Y,Y=IntKind.wrap IntKind.u64 (x1+x8)→∀b,b=IntKind.wrap IntKind.u64 (j*9786893198990664585)→((Wd b∧Wd (4332616871279656263:Int)∧Wd j)∧∀Z,Z=m0v b (4332616871279656263:Int) j→((Wd b∧Wd
 (10917124144477883021:Int)∧Wd V∧Wd Z)∧∀aa,aa=m2h b (10917124144477883021:Int) V Z→∀k,k=m2l b (10917124144477883021:Int) V Z→((Wd b∧Wd (13281191951274694749:Int)∧Wd X∧Wd aa)∧∀ab,ab=m2h b
 (13281191951274694749:Int) X aa→∀ac,ac=m2l b (13281191951274694749:Int) X aa→((Wd b∧Wd (3486998266802970665:Int)∧Wd Y∧Wd ab)∧∀ap,ap=m2h b (3486998266802970665:Int) Y ab→∀ad,ad=m2l b (3486998266802970665:
 Int) Y ab→∀ae,ae=IntKind.wrap IntKind.u64 (0+ap)→∀c,c=IntKind.wrap IntKind.u64 (k*9786893198990664585)→((Wd c∧Wd (4332616871279656263:Int)∧Wd k)∧∀af,af=m0v c (4332616871279656263:Int) k→((Wd c∧Wd
 (10917124144477883021:Int)∧Wd ac∧Wd af)∧∀ag,ag=m2h c (10917124144477883021:Int) ac af→∀l,l=m2l c (10917124144477883021:Int) ac af→((Wd c∧Wd (13281191951274694749:Int)∧Wd ad∧Wd ag)∧∀ah,ah=m2h c
 (13281191951274694749:Int) ad ag→∀m,m=m2l c (13281191951274694749:Int) ad ag→((Wd c∧Wd (3486998266802970665:Int)∧Wd ae∧Wd ah)∧∀aq,aq=m2h c (3486998266802970665:Int) ae ah→∀n,n=m2l c (3486998266802970665:
 Int) ae ah→∀o,o=IntKind.wrap IntKind.u64 (0+aq)→∀d,d=IntKind.wrap IntKind.u64 (l*9786893198990664585)→((Wd d∧Wd (4332616871279656263:Int)∧Wd l)∧∀ai,ai=m0v d (4332616871279656263:Int) l→((Wd d∧Wd
 (10917124144477883021:Int)∧Wd m∧Wd ai)∧∀aj,aj=m2h d (10917124144477883021:Int) m ai→∀e,e=m2l d (10917124144477883021:Int) m ai→((Wd d∧Wd (13281191951274694749:Int)∧Wd n∧Wd aj)∧∀ak,ak=m2h d
 (13281191951274694749:Int) n aj→∀f,f=m2l d (13281191951274694749:Int) n aj→((Wd d∧Wd (3486998266802970665:Int)∧Wd o∧Wd ak)∧∀g,g=m2h d (3486998266802970665:Int) o ak→∀i,i=m2l d (3486998266802970665:Int) o
 ak→(Wd e∧Wd f∧Wd i∧Wd g)∧(Bool.not (decide (V4 e f i g<21888242871839275222246405745257275088696311157297823662689037894645226208583))=true→((Wd e∧Wd (4332616871279656263:Int)∧(0:Int)≤(0:Int)∧(0:Int)≤(1:
 Int))∧∀q,q=difLo e (4332616871279656263:Int) (0:Int)→∀r,r=difHi e (4332616871279656263:Int) (0:Int)→((Wd f∧Wd (10917124144477883021:Int)∧0≤r∧r≤1)∧∀s,s=difLo f (10917124144477883021:Int) r→∀t,t
 =difHi f (10917124144477883021:Int) r→((Wd i∧Wd (13281191951274694749:Int)∧0≤t∧t≤1)∧∀u,u=difLo i (13281191951274694749:Int) t→∀v,v=difHi i (13281191951274694749:Int) t→((Wd g∧Wd (3486998266802970665:
 Int)∧0≤v∧v≤1)∧∀w,w=difLo g (3486998266802970665:Int) v→∀a3,a3=difHi g (3486998266802970665:Int) v→((p !=0)=true→((Wd q∧Wd (9223372036854775808:Int)∧(0:Int)≤(0:Int)∧(0:Int)≤(1:Int))∧∀x,
 x=difLo q (9223372036854775808:Int) (0:Int)→∀y,y=difHi q (9223372036854775808:Int) (0:Int)→((Wd s∧Wd (0:Int)∧0≤y∧y≤1)∧∀z,z=difLo s (0:Int) y→∀A,A=difHi s (0:Int) y→((Wd u∧Wd (0:Int)∧0≤
 A∧A≤1)∧∀B,B=difLo u (0:Int) A→∀C,C=difHi u (0:Int) A→((Wd w∧Wd (0:Int)∧0≤C∧C≤1)∧∀ar,ar=difLo w (0:Int) C→∀al,al=difHi w (0:Int) C→((al !=0)=true→((Wd x∧Wd (4332616871279656263:
 Int)∧(0:Int)≤(0:Int)∧(0:Int)≤(1:Int))∧∀au,au=sumLo x (4332616871279656263:Int) (0:Int)→∀D,D=sumHi x (4332616871279656263:Int) (0:Int)→((Wd z∧Wd (10917124144477883021:Int)∧0≤D∧D≤1)∧∀av,
 av=sumLo z (10917124144477883021:Int) D→∀E,E=sumHi z (10917124144477883021:Int) D→((Wd B∧Wd (13281191951274694749:Int)∧0≤E∧E≤1)∧∀aw,aw=sumLo B (13281191951274694749:Int) E→∀F,F=sumHi B
 (13281191951274694749:Int) E→((Wd (18446744073709551615:Int)∧Wd (3486998266802970665:Int)∧0≤F∧F≤1)∧∀ax,ax=sumLo (18446744073709551615:Int) (3486998266802970665:Int) F→∀a4,a4=sumHi (18446744073709551615:
 Int) (3486998266802970665:Int) F→K (.tup []) (memL [(1,⟨false,.cells [.int .u64 (.sym au),.int .u64 (.sym av),.int .u64 (.sym aw),.int .u64 (.sym ax)]⟩),(569,⟨false,.cells [.int .u64 (.lit 0),.int .u64 (.sym j),.int .u64
 (.sym k),.int .u64 (.sym l),.int .u64 (.sym m),.int .u64 (.sym n),.int .u64 (.sym o)]⟩)]))))))∧((al !=0)=false→K (.tup []) (memL [(1,⟨false,.cells [.int .u64 (.sym x),.int .u64 (.sym z),.int .u64 (.sym B),.int .u64 (.sym
 ar)]⟩),(569,⟨false,.cells [.int .u64 (.lit 0),.int .u64 (.sym j),.int .u64 (.sym k),.int .u64 (.sym l),.int .u64 (.sym m),.int .u64 (.sym n),.int .u64 (.sym o)]⟩)])))))))∧((p !=0)=false→K (.tup []) (memL [(1,⟨false,.cells
 [.int .u64 (.sym q),.int .u64 (.sym s),.int .u64 (.sym u),.int .u64 (.sym w)]⟩),(569,⟨false,.cells [.int .u64 (.lit 0),.int .u64 (.sym j),.int .u64 (.sym k),.int .u64 (.sym l),.int .u64 (.sym m),.int .u64 (.sym n),.int .u64
 (.sym o)]⟩)])))))))∧(Bool.not (decide (V4 e f i g<21888242871839275222246405745257275088696311157297823662689037894645226208583))=false→((p !=0)=true→((Wd e∧Wd (9223372036854775808:Int)∧(0:Int)≤(0:Int)∧(0:Int)
 ≤(1:Int))∧∀G,G=difLo e (9223372036854775808:Int) (0:Int)→∀H,H=difHi e (9223372036854775808:Int) (0:Int)→((Wd f∧Wd (0:Int)∧0≤H∧H≤1)∧∀I,I=difLo f (0:Int) H→∀J,J=difHi f (0:Int) H→((Wd i
 ∧Wd (0:Int)∧0≤J∧J≤1)∧∀L,L=difLo i (0:Int) J→∀M,M=difHi i (0:Int) J→((Wd g∧Wd (0:Int)∧0≤M∧M≤1)∧∀ay,ay=difLo g (0:Int) M→∀am,am=difHi g (0:Int) M→((am !=0)=true→((Wd G∧Wd
 (4332616871279656263:Int)∧(0:Int)≤(0:Int)∧(0:Int)≤(1:Int))∧∀az,az=sumLo G (4332616871279656263:Int) (0:Int)→∀N,N=sumHi G (4332616871279656263:Int) (0:Int)→((Wd I∧Wd (10917124144477883021:Int)∧0
 ≤N∧N≤1)∧∀a0,a0=sumLo I (10917124144477883021:Int) N→∀O,O=sumHi I (10917124144477883021:Int) N→((Wd L∧Wd (13281191951274694749:Int)∧0≤O∧O≤1)∧∀a1,a1=sumLo L (13281191951274694749:Int) O→∀Q,Q=
 sumHi L (13281191951274694749:Int) O→((Wd (18446744073709551615:Int)∧Wd (3486998266802970665:Int)∧0≤Q∧Q≤1)∧∀a2,a2=sumLo (18446744073709551615:Int) (3486998266802970665:Int) Q→∀a5,a5=sumHi
 (18446744073709551615:Int) (3486998266802970665:Int) Q→K (.tup []) (memL [(1,⟨false,.cells [.int .u64 (.sym az),.int .u64 (.sym a0),.int .u64 (.sym a1),.int .u64 (.sym a2)]⟩),(569,⟨false,.cells [.int .u64 (.lit 0),.int .u64
 (.sym j),.int .u64 (.sym k),.int .u64 (.sym l),.int .u64 (.sym m),.int .u64 (.sym n),.int .u64 (.sym o)]⟩)]))))))∧((am !=0)=false→K (.tup []) (memL [(1,⟨false,.cells [.int .u64 (.sym G),.int .u64 (.sym I),.int .u64 (.sym
 L),.int .u64 (.sym ay)]⟩),(569,⟨false,.cells [.int .u64 (.lit 0),.int .u64 (.sym j),.int .u64 (.sym k),.int .u64 (.sym l),.int .u64 (.sym m),.int .u64 (.sym n),.int .u64 (.sym o)]⟩)])))))))∧((p !=0)=false→K (.tup []) (memL
 [(1,⟨false,.cells [.int .u64 (.sym e),.int .u64 (.sym f),.int .u64 (.sym i),.int .u64 (.sym g)]⟩),(569,⟨false,.cells [.int .u64 (.lit 0),.int .u64 (.sym j),.int .u64 (.sym k),.int .u64 (.sym l),.int .u64 (.sym m),.int .u64
 (.sym n),.int .u64 (.sym o)]⟩)])))))))))))))))))))):=by kernel_rfl
theorem wdA {x a b c:Int} (h:x=m0v a b c):Wd x:=h ▸ m0v_wd _ _ _
theorem wdB {x a b c d:Int} (h:x=m2h a b c d):Wd x:=h ▸ m2h_wd _ _ _ _
theorem wdC {x a b c d:Int} (h:x=m2l a b c d):Wd x:=h ▸ m2l_wd _ _ _ _
theorem wdD {x a b c:Int} (h:x=sumLo a b c):Wd x:=h ▸ sumLo_wd _ _ _
theorem wdE {x a b c:Int} (h:x=difLo a b c):Wd x:=by rw[h];unfold difLo Wd;omega
theorem wdF {x a:Int} (h:x=IntKind.u64.wrap a):Wd x:=by rw[h,wu64];unfold Wd;omega
theorem btA {x a b c:Int} (h:x=sumHi a b c) (ha:Wd a) (hb:Wd b) (h0:0≤c) (h1:c≤1):0≤x∧x≤1:=h ▸ sumHi_le ha hb h0 h1
theorem btB {x a b c:Int} (h:x=difHi a b c):0≤x∧x≤1:=by rw[h];unfold difHi;split<;>omega
set_option maxHeartbeats 4000000 in
theorem mr_walk {z0 z1 z2 z3 h:Int} {K:SV→Mem→Prop} (w0:Wd z0) (w1:Wd z1) (w2:Wd z2) (w3:Wd z3) (hK:∀y0 y1 y2 y3,Wd y0→Wd y1→Wd y2→Wd y3→∀g,K (.tup []) (memL [(1,⟨false,w4 y0 y1 y2 y3⟩),(569,g)])):
  execF cxMr u0 Tryz.f159 64 [.ptr 1 (.lit 0),.ptr 1 (.lit 0),.int .u64 (.sym h)] (memL [(1,⟨false,w4 z0 z1 z2 z3⟩)]) K:=by
 rw[vc_mr]
 have q0:=wdq0
 have q1:=wdq1
 have q2:=wdq2
 have q3:=wdq3
 have c0:=wd0
 have c1:(0:Int)≤0:=Int.le_refl _
 have c2:(0:Int)≤1:=by decide
 have c3:Wd 9223372036854775808:=by unfold Wd;omega
 have c4:=wd_max
 repeat' first
  | assumption
  | exact hK _ _ _ _ (by assumption) (by assumption) (by assumption) (by assumption) _
  | apply And.intro
  | (intro x h;have w:=wdA h)
  | (intro x h;have w:=wdB h)
  | (intro x h;have w:=wdC h)
  | (intro x h;have w:=wdD h)
  | (intro x h;have w:=wdE h)
  | (intro x h;have w:=wdF h)
  | (intro x h;obtain ⟨_,_⟩:=btA h (by assumption) (by assumption) (by assumption) (by assumption))
  | (intro x h;obtain ⟨_,_⟩:=btB h)
  | intro _
end Go.Sx
