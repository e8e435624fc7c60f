/- Part 3 of the proof: for every message and domain the law FnHashG1 returns true (a verified symbolic evaluator, contracts of each function reached, the law, its row and card). Conditions: those of the given statement, none besides. -/
import Derived.Test.YtmjcckimldkjkaaGreatDoorSx2
namespace Go.Sx
open Go
theorem wr8_eq (x:Int):wr8 (List.replicate 8 0) x=len8 x:=rfl
theorem pad_row {n:Nat} (h1:1≤n) (h2:n≤64) (x:Int):
  (splice (128::List.replicate 71 0) n (len8 x)).take (n+8)=128::List.replicate (n-1) 0++len8 x:=by
 have:=take_splice_mid (x:=128::List.replicate 71 0) (q:=len8 x) (n:=n) (by simp;omega)
 have hl:(len8 x).length=8:=rfl
 rw[hl]at this
 rw[this]
 obtain ⟨k,rfl⟩:∃k,n=k+1:=⟨n-1,by omega⟩
 rw[List.take_succ_cons,List.take_replicate,Nat.min_eq_left (by omega)]
 rfl
end Go.Sx
namespace Go.Sx
open Go Go.Proofs
set_option maxRecDepth 100000
set_option maxHeartbeats 4000000
theorem z128:([128,0,0,0,0,0,0,0,0,0,0,0,0,0,0,0,0,0,0,0,0,0,0,0,0,0,0,0,0,0,0,0,0,0,0,0,0,0,0,0,0,0,0,0,0,0,0,0,0,0,0,0,0,0,0,0,0,0,0,0,0,0,0,0,0,0,0,0,0,0,0,0]:List Int)=128::List.replicate 71 0:=rfl
theorem z32:([0,0,0,0,0,0,0,0,0,0,0,0,0,0,0,0,0,0,0,0,0,0,0,0,0,0,0,0,0,0,0,0]:List Int)=List.replicate 32 0:=rfl
theorem cs_walk (M:List Int) (H:S8) (xs:List Int) (nx len:Int) (K:SV→Mem→Prop) (hA:Abs M H xs nx len) (hM:M.length<2 ^ 39) (hup:KUp K)
  (hK:∀bs,bs=sha M→∀H' x' nx' len',K (.agg (picks .u8 bs 0 32)) (memL [(2,⟨true,.ints .u32 kL⟩),(9,dgR false H' x' nx' len')])):
  execF cxCs u0 Tryz.f102 64 [.ptr 9 (.lit 0)] (memL [(2,⟨true,.ints .u32 kL⟩),(9,dgR false H xs nx len)]) K:=by
 rw[vc_cs]
 have hlen:=hA.len
 rintro x0 rfl x1 hx1
 have e1:x1=(M.length%64:Nat):=by rw[hx1,hlen];exact_mod_cast rfl
 refine ⟨fun hlt=> ?_,fun hlt=> ?_⟩
 all_goals
  simp only[decide_eq_true_eq,decide_eq_false_iff_not]at hlt
  rintro x2 hx2 x3 hx3 x4 hx4 x5 hx5
  have e2:x2=(M.length%64:Nat):=by rw[hx2,←hx1,e1]
  have hpn:x3=padN M.length:=by
   rw[hx3,wrapu64 (by omega) (by omega)]
   unfold padN
   split<;>omega
  have hp1:1≤padN M.length:=by unfold padN;split<;>omega
  have hp2:padN M.length≤64:=by unfold padN;split<;>omega
  have hpm:(M.length+padN M.length+8)%64=0:=by unfold padN;split<;>omega
  rw[wrapu64 (by omega) (by omega)]at hx5
  have e5:x5.toNat=padN M.length+8:=by omega
  refine ⟨⟨by omega,by omega⟩,?_⟩
  rintro x6 hx6
  rw[wrapu64 (by omega) (by omega)]at hx6
  have e6:x6.toNat=padN M.length:=by omega
  rw[e5,e6,if_neg (by omega)]
  simp only[Nat.sub_zero,Nat.mul_one,Nat.add_sub_cancel_left,Nat.zero_add,List.drop_zero,z128]
  have e8:List.take 8 (List.drop (padN M.length) (128::List.replicate 71 (0:Int)))=List.replicate 8 0:=by
   obtain ⟨k,hk⟩:∃k,padN M.length=k+1:=⟨padN M.length-1,by omega⟩
   rw[hk,List.drop_succ_cons,List.drop_replicate,List.take_replicate]
   congr 1
   omega
  rw[e8]
  refine ⟨⟨by omega,by omega⟩,by omega,⟨by omega,by simp⟩,?_⟩
  rintro ys7 rfl
  refine ⟨rfl,?_,?_⟩
  ·show padN M.length+8≤72
   omega
  rintro ys8 rfl
  rw[wr8_eq]
  have hsl:(splice (128::List.replicate 71 0) (padN M.length) (len8 x4)).length=72:=by
   rw[splice_length]
   ·simp
   ·show padN M.length+8≤_
    simp
    omega
  have hpad:(splice (128::List.replicate 71 0) (padN M.length) (len8 x4)).take (padN M.length+8)=padding M.length:=by
   rw[pad_row hp1 hp2,hx4,hlen]
   rfl
  rw[hpad]
  have hpl:=padding_length M.length
  refine ⟨by rw[hsl];omega,M,⟨trivial,hA,padding_bytes _,hpl,by omega,by omega,by omega⟩,?_⟩
  rintro x10 x11 x12 x13 hB ys14 rfl x15 rfl
  have hl2:(M++padding M.length).length=M.length+padN M.length+8:=by rw[List.length_append,hpl];omega
  have h0:x15=0:=by rw[hB.nx,hl2,hpm];rfl
  subst h0
  refine ⟨fun h=>absurd h (by decide),fun _=> ?_⟩
  have hsha:out32 x10=sha M:=by rw[hB.h,hl2];rfl
  obtain ⟨a,b,c,d,e,f,g,h⟩:=x10
  dsimp only
  rintro x16 rfl
  refine ⟨by omega,⟨by omega,by omega⟩,?_⟩
  rintro ys17 rfl
  refine ⟨rfl,Nat.le_of_ble_eq_true rfl,?_⟩
  rintro ys18 h18
  obtain rfl:ys18=out4 x16++List.replicate 28 0:=h18
  rintro x19 rfl
  refine ⟨Nat.le_of_ble_eq_true rfl,⟨by omega,Nat.le_of_ble_eq_true rfl⟩,?_⟩
  rintro ys20 rfl
  refine ⟨rfl,Nat.le_of_ble_eq_true rfl,?_⟩
  rintro ys21 h21
  obtain rfl:ys21=out4 x16++out4 x19++List.replicate 24 0:=h21
  rintro x22 rfl
  refine ⟨Nat.le_of_ble_eq_true rfl,⟨by omega,Nat.le_of_ble_eq_true rfl⟩,?_⟩
  rintro ys23 rfl
  refine ⟨rfl,Nat.le_of_ble_eq_true rfl,?_⟩
  rintro ys24 h24
  obtain rfl:ys24=out4 x16++out4 x19++out4 x22++List.replicate 20 0:=h24
  rintro x25 rfl
  refine ⟨Nat.le_of_ble_eq_true rfl,⟨by omega,Nat.le_of_ble_eq_true rfl⟩,?_⟩
  rintro ys26 rfl
  refine ⟨rfl,Nat.le_of_ble_eq_true rfl,?_⟩
  rintro ys27 h27
  obtain rfl:ys27=out4 x16++out4 x19++out4 x22++out4 x25++List.replicate 16 0:=h27
  rintro x28 rfl
  refine ⟨Nat.le_of_ble_eq_true rfl,⟨by omega,Nat.le_of_ble_eq_true rfl⟩,?_⟩
  rintro ys29 rfl
  refine ⟨rfl,Nat.le_of_ble_eq_true rfl,?_⟩
  rintro ys30 h30
  obtain rfl:ys30=out4 x16++out4 x19++out4 x22++out4 x25++out4 x28++List.replicate 12 0:=h30
  rintro x31 rfl
  refine ⟨Nat.le_of_ble_eq_true rfl,⟨by omega,Nat.le_of_ble_eq_true rfl⟩,?_⟩
  rintro ys32 rfl
  refine ⟨rfl,Nat.le_of_ble_eq_true rfl,?_⟩
  rintro ys33 h33
  obtain rfl:ys33=out4 x16++out4 x19++out4 x22++out4 x25++out4 x28++out4 x31++List.replicate 8 0:=h33
  rintro x34 rfl
  refine ⟨Nat.le_of_ble_eq_true rfl,⟨by omega,Nat.le_of_ble_eq_true rfl⟩,?_⟩
  rintro ys35 rfl
  refine ⟨rfl,Nat.le_of_ble_eq_true rfl,?_⟩
  rintro ys36 h36
  obtain rfl:ys36=out4 x16++out4 x19++out4 x22++out4 x25++out4 x28++out4 x31++out4 x34++List.replicate 4 0:=h36
  rintro x37 rfl
  refine ⟨Nat.le_of_ble_eq_true rfl,⟨by omega,Nat.le_of_ble_eq_true rfl⟩,?_⟩
  rintro ys38 rfl
  refine ⟨rfl,Nat.le_of_ble_eq_true rfl,?_⟩
  rintro ys39 h39
  obtain h39:ys39=out32 ⟨x16,x19,x22,x25,x28,x31,x34,x37⟩:=h39
  rw[hsha]at h39
  refine ⟨by rw[h39];exact Nat.le_of_ble_eq_true rfl,?_⟩
  rintro x40 rfl x41 rfl x42 rfl x43 rfl x44 rfl x45 rfl x46 rfl x47 rfl x48 rfl x49 rfl x50 rfl x51 rfl x52 rfl x53 rfl x54 rfl x55 rfl x56 rfl x57 rfl x58 rfl x59 rfl x60 rfl x61 rfl x62 rfl x63 rfl x64 rfl x65 rfl x66 rfl x67 rfl x68 rfl x69 rfl x70 rfl x71 rfl
  have:=hK _ h39 ⟨x16,x19,x22,x25,x28,x31,x34,x37⟩ ys14 0 x13
  exact hup.le (memL_more (k:= [_,_,_]) (l:= [_,_]) [2,9,513,561,817] rfl (by decide)) this
end Go.Sx
namespace Go.Sx
open Go Go.Proofs
set_option maxRecDepth 100000
def gCs:G0:=fun args l K=>
 match args,l with
 | [.ptr 9 (.lit 0)],[(2,⟨true,.ints .u32 ks⟩),(9,⟨false,.segs [.cells [.int .u32 (.sym h0),.int .u32 (.sym h1),.int .u32 (.sym h2),.int .u32 (.sym h3),.int .u32 (.sym h4),.int .u32 (.sym h5),.int .u32 (.sym h6),.int .u32 (.sym h7)],.ints .u8 64 xs,.cells [.int .i64 (.sym nx),.int .u64 (.sym len),.bool (.lit false)]]⟩)]=>
  ∃M,(ks=kL∧Abs M ⟨h0,h1,h2,h3,h4,h5,h6,h7⟩ xs nx len∧M.length<2 ^ 39)∧
   ∀bs,bs=sha M→∀H' x' nx' len',K (.agg (picks .u8 bs 0 32)) (memL [(2,⟨true,.ints .u32 kL⟩),(9,dgR false H' x' nx' len')])
 | _,_=>False
theorem cs_good:Good gCs:=by
 constructor
 ·intro args l K K' hk h
  unfold gCs at h ⊢
  split at h
  ·obtain ⟨M,h1,h2⟩:=h
   exact ⟨M,h1,fun bs hb H' x' nx' len'=>hk _ _ (h2 bs hb H' x' nx' len')⟩
  ·exact h.elim
 ·intro args l K h
  unfold gCs at h
  split at h
  ·obtain ⟨M,h1,h2⟩:=h
   exact ⟨_,_,h2 _ rfl S0 [] 0 0⟩
  ·exact h.elim
theorem cs_ok (args:List SV) (l:List (Nat×Reg)) (K:SV→Mem→Prop) (hup:KUp K) (h:gCs args l K):∃U,execF cxCs U Tryz.f102 64 args (memL l) K:=by
 refine ⟨u0,?_⟩
 unfold gCs at h
 split at h
 ·rename_i ks h0 h1 h2 h3 h4 h5 h6 h7 xs nx len
  obtain ⟨M,⟨hk,k1,k2⟩,k3⟩:=h
  subst hk
  exact cs_walk M ⟨h0,h1,h2,h3,h4,h5,h6,h7⟩ xs nx len K k1 k2 hup k3
 ·exact h.elim
def cCs:Ef Tryz.prog:=mkE mixed 102 Tryz.func102 (by decide) (by kernel_rfl) [1] [.parts dgSh false] gCs cs_good cs_ok
def cxSum:Cx Tryz.prog:= { rds:= [],efs:= [cCs],eqs:= [] }
theorem vc_sum (H:S8) (xs:List Int) (nx len:Int) (K:SV→Mem→Prop):(execF cxSum u0 Tryz.f79 64 [.ptr 9 (.lit 0),.val (.slice none 0 0)] (memL [(2,⟨true,.ints .u32 kL⟩),(9,dgR true H xs nx len)]) K)=(∀g,g=S8.a H→∀h,
 h=S8.b H→∀i,i=S8.c H→∀j,j=S8.d H→∀k,k=S8.e H→∀l,l=S8.f H→∀m,m=S8.g H→∀n,n=S8.h H→∀o:Int,o=List.getD xs 0 (0:Int)→∀p:Int,p=List.getD xs 1 (0:Int)→∀q:Int,q=List.getD xs 2 (0:
 Int)→∀r:Int,r=List.getD xs 3 (0:Int)→∀s:Int,s=List.getD xs 4 (0:Int)→∀t:Int,t=List.getD xs 5 (0:Int)→∀u:Int,u=List.getD xs 6 (0:Int)→∀v:Int,v=List.getD xs 7 (0:Int)→∀w:Int,w=
 List.getD xs 8 (0:Int)→∀x:Int,x=List.getD xs 9 (0:Int)→∀y:Int,y=List.getD xs 10 (0:Int)→∀z:Int,z=List.getD xs 11 (0:Int)→∀A:Int,A=List.getD xs 12 (0:Int)→∀B:Int,B=List.getD xs 13 (0:Int)
 →∀C:Int,C=List.getD xs 14 (0:Int)→∀D:Int,D=List.getD xs 15 (0:Int)→∀E:Int,E=List.getD xs 16 (0:Int)→∀F:Int,F=List.getD xs 17 (0:Int)→∀G:Int,G=List.getD xs 18 (0:Int)→∀I:Int,I=
 List.getD xs 19 (0:Int)→∀J:Int,J=List.getD xs 20 (0:Int)→∀L:Int,L=List.getD xs 21 (0:Int)→∀M:Int,M=List.getD xs 22 (0:Int)→∀N:Int,N=List.getD xs 23 (0:Int)→∀O:Int,O=List.getD xs 24 (0:
 Int)→∀Q:Int,Q=List.getD xs 25 (0:Int)→∀R:Int,R=List.getD xs 26 (0:Int)→∀S:Int,S=List.getD xs 27 (0:Int)→∀T:Int,T=List.getD xs 28 (0:Int)→∀V:Int,V=List.getD xs 29 (0:Int)→∀X:Int,X=
 List.getD xs 30 (0:Int)→∀Y:Int,Y=List.getD xs 31 (0:Int)→∀Z:Int,Z=List.getD xs 32 (0:Int)→∀aa:Int,aa=List.getD xs 33 (0:Int)→∀ab:Int,ab=List.getD xs 34 (0:Int)→∀ac:Int,ac=List.getD xs 35 (0
 :Int)→∀ad:Int,ad=List.getD xs 36 (0:Int)→∀ae:Int,ae=List.getD xs 37 (0:Int)→∀af:Int,af=List.getD xs 38 (0:Int)→∀ag:Int,ag=List.getD xs 39 (0:Int)→∀ah:Int,ah=List.getD xs 40 (0:Int)→∀ai
 :Int,ai=List.getD xs 41 (0:Int)→∀aj:Int,aj=List.getD xs 42 (0:Int)→∀ak:Int,ak=List.getD xs 43 (0:Int)→∀al:Int,al=List.getD xs 44 (0:Int)→∀am:Int,am=List.getD xs 45 (0:Int)→∀an:Int,an=
 List.getD xs 46 (0:Int)→∀ao:Int,ao=List.getD xs 47 (0:Int)→∀ap:Int,ap=List.getD xs 48 (0:Int)→∀aq:Int,aq=List.getD xs 49 (0:Int)→∀ar:Int,ar=List.getD xs 50 (0:Int)→∀au:Int,au=List.getD xs
 51 (0:Int)→∀av:Int,av=List.getD xs 52 (0:Int)→∀aw:Int,aw=List.getD xs 53 (0:Int)→∀ax:Int,ax=List.getD xs 54 (0:Int)→∀ay:Int,ay=List.getD xs 55 (0:Int)→∀az:Int,az=List.getD xs 56 (0:Int)→
 ∀a0:Int,a0=List.getD xs 57 (0:Int)→∀a1:Int,a1=List.getD xs 58 (0:Int)→∀a2:Int,a2=List.getD xs 59 (0:Int)→∀a3:Int,a3=List.getD xs 60 (0:Int)→∀a4:Int,a4=List.getD xs 61 (0:Int)→∀a5:Int,a5
 =List.getD xs 62 (0:Int)→∀a6:Int,a6=List.getD xs 63 (0:Int)→∀a7,a7=nx→∀a8,a8=len→∃c:List Int,(kL=kL∧Abs c (S8.mk g h i j k l m n) [o,p,q,r,s,t,u,v,w,x,y,z,A,B,C,D,E,F,G,I,J,L,M,N,
 O,Q,R,S,T,V,X,Y,Z,aa,ab,ac,ad,ae,af,ag,ah,ai,aj,ak,al,am,an,ao,ap,aq,ar,au,av,aw,ax,ay,az,a0,a1,a2,a3,a4,a5,a6] a7 a8∧c.length<549755813888)∧∀a:List Int,a=sha c→∀(b:S8) (bb:List
 Int) (a9 ba:Int) (d:List Int),d=bb→(True∧Nat.le (32:Nat) (List.length [List.getD a 0 (0:Int),List.getD a 1 (0:Int),List.getD a 2 (0:Int),List.getD a 3 (0:Int),List.getD a 4 (0:Int),List.getD a 5 (0:Int),
 List.getD a 6 (0:Int),List.getD a 7 (0:Int),List.getD a 8 (0:Int),List.getD a 9 (0:Int),List.getD a 10 (0:Int),List.getD a 11 (0:Int),List.getD a 12 (0:Int),List.getD a 13 (0:Int),List.getD a 14 (0:Int),List.getD
 a 15 (0:Int),List.getD a 16 (0:Int),List.getD a 17 (0:Int),List.getD a 18 (0:Int),List.getD a 19 (0:Int),List.getD a 20 (0:Int),List.getD a 21 (0:Int),List.getD a 22 (0:Int),List.getD a 23 (0:Int),List.getD a 24
 (0:Int),List.getD a 25 (0:Int),List.getD a 26 (0:Int),List.getD a 27 (0:Int),List.getD a 28 (0:Int),List.getD a 29 (0:Int),List.getD a 30 (0:Int),List.getD a 31 (0:Int)])∧(32:Nat)≤(549755813888:Nat)∧(32:
 Nat)≤(549755813888:Nat))∧((32:Nat)=(0:Nat)→K (.val (.slice none 0 0)) (memL [(2,⟨true,.ints .u32 kL⟩),(9,⟨true,.segs [.cells [.int .u32 (.sym (S8.a H)),.int .u32 (.sym (S8.b H)),.int .u32 (.sym (S8.c H)),.int .u32
 (.sym (S8.d H)),.int .u32 (.sym (S8.e H)),.int .u32 (.sym (S8.f H)),.int .u32 (.sym (S8.g H)),.int .u32 (.sym (S8.h H))],.ints .u8 64 xs,.cells [.int .i64 (.sym nx),.int .u64 (.sym len),.bool (.lit false)]]⟩),(545,⟨false,.segs
 [.cells [.int .u32 (.sym (S8.a b)),.int .u32 (.sym (S8.b b)),.int .u32 (.sym (S8.c b)),.int .u32 (.sym (S8.d b)),.int .u32 (.sym (S8.e b)),.int .u32 (.sym (S8.f b)),.int .u32 (.sym (S8.g b)),.int .u32 (.sym (S8.h b))],.ints .u8 64
 d,.cells [.int .i64 (.sym a9),.int .u64 (.sym ba),.bool (.lit false)]]⟩),(569,⟨false,.cells [.int .u8 (.sym (List.getD a 0 (0:Int))),.int .u8 (.sym (List.getD a 1 (0:Int))),.int .u8 (.sym (List.getD a 2 (0:Int))),.int .u8
 (.sym (List.getD a 3 (0:Int))),.int .u8 (.sym (List.getD a 4 (0:Int))),.int .u8 (.sym (List.getD a 5 (0:Int))),.int .u8 (.sym (List.getD a 6 (0:Int))),.int .u8 (.sym (List.getD a 7 (0:Int))),.int .u8 (.sym (List.getD a 8 (0
 :Int))),.int .u8 (.sym (List.getD a 9 (0:Int))),.int .u8 (.sym (List.getD a 10 (0:Int))),.int .u8 (.sym (List.getD a 11 (0:Int))),.int .u8 (.sym (List.getD a 12 (0:Int))),.int .u8 (.sym (List.getD a 13 (0:Int))),.int .u8
 (.sym (List.getD a 14 (0:Int))),.int .u8 (.sym (List.getD a 15 (0:Int))),.int .u8 (.sym (List.getD a 16 (0:Int))),.int .u8 (.sym (List.getD a 17 (0:Int))),.int .u8 (.sym (List.getD a 18 (0:Int))),.int .u8 (.sym (List.getD a
 19 (0:Int))),.int .u8 (.sym (List.getD a 20 (0:Int))),.int .u8 (.sym (List.getD a 21 (0:Int))),.int .u8 (.sym (List.getD a 22 (0:Int))),.int .u8 (.sym (List.getD a 23 (0:Int))),.int .u8 (.sym (List.getD a 24 (0:Int))),
 .int .u8 (.sym (List.getD a 25 (0:Int))),.int .u8 (.sym (List.getD a 26 (0:Int))),.int .u8 (.sym (List.getD a 27 (0:Int))),.int .u8 (.sym (List.getD a 28 (0:Int))),.int .u8 (.sym (List.getD a 29 (0:Int))),.int .u8 (.sym
 (List.getD a 30 (0:Int))),.int .u8 (.sym (List.getD a 31 (0:Int)))]⟩)]))∧((0:Nat)<(32:Nat)→∀(e:Nat) (f:List Int),32≤e∧f.length=e*1∧List.take 32 f= []++List.take 32 (List.drop 0 [List.getD a 0 (0:Int),
 List.getD a 1 (0:Int),List.getD a 2 (0:Int),List.getD a 3 (0:Int),List.getD a 4 (0:Int),List.getD a 5 (0:Int),List.getD a 6 (0:Int),List.getD a 7 (0:Int),List.getD a 8 (0:Int),List.getD a 9 (0:Int),List.getD a 10
 (0:Int),List.getD a 11 (0:Int),List.getD a 12 (0:Int),List.getD a 13 (0:Int),List.getD a 14 (0:Int),List.getD a 15 (0:Int),List.getD a 16 (0:Int),List.getD a 17 (0:Int),List.getD a 18 (0:Int),List.getD a 19 (0:
 Int),List.getD a 20 (0:Int),List.getD a 21 (0:Int),List.getD a 22 (0:Int),List.getD a 23 (0:Int),List.getD a 24 (0:Int),List.getD a 25 (0:Int),List.getD a 26 (0:Int),List.getD a 27 (0:Int),List.getD a 28 (0:Int),
 List.getD a 29 (0:Int),List.getD a 30 (0:Int),List.getD a 31 (0:Int)])→K (.slice 617 (.lit 0) (.lit 32) (.sym e)) (memL [(2,⟨true,.ints .u32 kL⟩),(9,⟨true,.segs [.cells [.int .u32 (.sym (S8.a H)),.int .u32 (.sym (S8.b H)),
 .int .u32 (.sym (S8.c H)),.int .u32 (.sym (S8.d H)),.int .u32 (.sym (S8.e H)),.int .u32 (.sym (S8.f H)),.int .u32 (.sym (S8.g H)),.int .u32 (.sym (S8.h H))],.ints .u8 64 xs,.cells [.int .i64 (.sym nx),.int .u64 (.sym len),.bool
 (.lit false)]]⟩),(545,⟨false,.segs [.cells [.int .u32 (.sym (S8.a b)),.int .u32 (.sym (S8.b b)),.int .u32 (.sym (S8.c b)),.int .u32 (.sym (S8.d b)),.int .u32 (.sym (S8.e b)),.int .u32 (.sym (S8.f b)),.int .u32 (.sym (S8.g b)),
 .int .u32 (.sym (S8.h b))],.ints .u8 64 d,.cells [.int .i64 (.sym a9),.int .u64 (.sym ba),.bool (.lit false)]]⟩),(569,⟨false,.cells [.int .u8 (.sym (List.getD a 0 (0:Int))),.int .u8 (.sym (List.getD a 1 (0:Int))),.int .u8
 (.sym (List.getD a 2 (0:Int))),.int .u8 (.sym (List.getD a 3 (0:Int))),.int .u8 (.sym (List.getD a 4 (0:Int))),.int .u8 (.sym (List.getD a 5 (0:Int))),.int .u8 (.sym (List.getD a 6 (0:Int))),.int .u8 (.sym (List.getD a 7 (0
 :Int))),.int .u8 (.sym (List.getD a 8 (0:Int))),.int .u8 (.sym (List.getD a 9 (0:Int))),.int .u8 (.sym (List.getD a 10 (0:Int))),.int .u8 (.sym (List.getD a 11 (0:Int))),.int .u8 (.sym (List.getD a 12 (0:Int))),.int .u8
 (.sym (List.getD a 13 (0:Int))),.int .u8 (.sym (List.getD a 14 (0:Int))),.int .u8 (.sym (List.getD a 15 (0:Int))),.int .u8 (.sym (List.getD a 16 (0:Int))),.int .u8 (.sym (List.getD a 17 (0:Int))),.int .u8 (.sym (List.getD a
 18 (0:Int))),.int .u8 (.sym (List.getD a 19 (0:Int))),.int .u8 (.sym (List.getD a 20 (0:Int))),.int .u8 (.sym (List.getD a 21 (0:Int))),.int .u8 (.sym (List.getD a 22 (0:Int))),.int .u8 (.sym (List.getD a 23 (0:Int))),
 .int .u8 (.sym (List.getD a 24 (0:Int))),.int .u8 (.sym (List.getD a 25 (0:Int))),.int .u8 (.sym (List.getD a 26 (0:Int))),.int .u8 (.sym (List.getD a 27 (0:Int))),.int .u8 (.sym (List.getD a 28 (0:Int))),.int .u8 (.sym
 (List.getD a 29 (0:Int))),.int .u8 (.sym (List.getD a 30 (0:Int))),.int .u8 (.sym (List.getD a 31 (0:Int)))]⟩),(617,⟨false,.ints .u8 f⟩)]))):=by kernel_rfl
theorem list64 {xs:List Int} (h:xs.length=64): [xs.getD 0 0,xs.getD 1 0,xs.getD 2 0,xs.getD 3 0,xs.getD 4 0,xs.getD 5 0,xs.getD 6 0,xs.getD 7 0,xs.getD 8 0,xs.getD 9 0,xs.getD 10 0,xs.getD 11 0,xs.getD 12 0,xs.getD 13 0,xs.getD 14 0,xs.getD 15 0,xs.getD 16 0,xs.getD 17 0,xs.getD 18 0,xs.getD 19 0,xs.getD 20 0,xs.getD 21 0,xs.getD 22 0,xs.getD 23 0,xs.getD 24 0,xs.getD 25 0,xs.getD 26 0,xs.getD 27 0,xs.getD 28 0,xs.getD 29 0,xs.getD 30 0,xs.getD 31 0,xs.getD 32 0,xs.getD 33 0,xs.getD 34 0,xs.getD 35 0,xs.getD 36 0,xs.getD 37 0,xs.getD 38 0,xs.getD 39 0,xs.getD 40 0,xs.getD 41 0,xs.getD 42 0,xs.getD 43 0,xs.getD 44 0,xs.getD 45 0,xs.getD 46 0,xs.getD 47 0,xs.getD 48 0,xs.getD 49 0,xs.getD 50 0,xs.getD 51 0,xs.getD 52 0,xs.getD 53 0,xs.getD 54 0,xs.getD 55 0,xs.getD 56 0,xs.getD 57 0,xs.getD 58 0,xs.getD 59 0,xs.getD 60 0,xs.getD 61 0,xs.getD 62 0,xs.getD 63 0]=xs:=by
 apply List.ext_getElem
 ·simpa using h.symm
 ·intro i h1 h2
  simp only[List.length_cons,List.length_nil]at h1
  have hi:i<64:=by omega
  have:∀j:Nat,j<64→(hj:j<xs.length)→((List.range 64).map (fun k=>xs.getD k 0))[j]? =some (xs[j]):=by
   intro j hj hj2
   simp[hj,List.getD_eq_getElem?_getD,List.getElem?_eq_getElem hj2]
  have h3:=this i hi h2
  have h4:∀l:List Int,l=(List.range 64).map (fun k=>xs.getD k 0)→∀(hl:i<l.length),l[i]=xs[i]:=by
   rintro l rfl hl
   rw[List.getElem?_eq_getElem hl]at h3
   exact Option.some.inj h3
  exact h4 _ rfl h1
theorem list32 {xs:List Int} (h:xs.length=32): [xs.getD 0 0,xs.getD 1 0,xs.getD 2 0,xs.getD 3 0,xs.getD 4 0,xs.getD 5 0,xs.getD 6 0,xs.getD 7 0,xs.getD 8 0,xs.getD 9 0,xs.getD 10 0,xs.getD 11 0,xs.getD 12 0,xs.getD 13 0,xs.getD 14 0,xs.getD 15 0,xs.getD 16 0,xs.getD 17 0,xs.getD 18 0,xs.getD 19 0,xs.getD 20 0,xs.getD 21 0,xs.getD 22 0,xs.getD 23 0,xs.getD 24 0,xs.getD 25 0,xs.getD 26 0,xs.getD 27 0,xs.getD 28 0,xs.getD 29 0,xs.getD 30 0,xs.getD 31 0]=xs:=by
 apply List.ext_getElem
 ·simpa using h.symm
 ·intro i h1 h2
  simp only[List.length_cons,List.length_nil]at h1
  have hi:i<32:=by omega
  have:∀j:Nat,j<32→(hj:j<xs.length)→((List.range 32).map (fun k=>xs.getD k 0))[j]? =some (xs[j]):=by
   intro j hj hj2
   simp[hj,List.getD_eq_getElem?_getD,List.getElem?_eq_getElem hj2]
  have h3:=this i hi h2
  have h4:∀l:List Int,l=(List.range 32).map (fun k=>xs.getD k 0)→∀(hl:i<l.length),l[i]=xs[i]:=by
   rintro l rfl hl
   rw[List.getElem?_eq_getElem hl]at h3
   exact Option.some.inj h3
  exact h4 _ rfl h1
def gSum:G0:=fun args l K=>
 match args,l with
 | [.ptr 9 (.lit 0),.val (.slice none 0 0)],[(2,⟨true,.ints .u32 ks⟩),(9,⟨true,.segs [.cells [.int .u32 (.sym h0),.int .u32 (.sym h1),.int .u32 (.sym h2),.int .u32 (.sym h3),.int .u32 (.sym h4),.int .u32 (.sym h5),.int .u32 (.sym h6),.int .u32 (.sym h7)],.ints .u8 64 xs,.cells [.int .i64 (.sym nx),.int .u64 (.sym len),.bool (.lit false)]]⟩)]=>
  ∃M,(ks=kL∧Abs M ⟨h0,h1,h2,h3,h4,h5,h6,h7⟩ xs nx len∧M.length<2 ^ 39)∧
   ∀ys cap,ys.take 32=sha M∧ys.length=cap∧32≤cap→K (.slice 617 (.lit 0) (.lit 32) (.sym cap)) (memL [(2,⟨true,.ints .u32 kL⟩),(9,dgR true ⟨h0,h1,h2,h3,h4,h5,h6,h7⟩ xs nx len),(617,⟨false,.ints .u8 ys⟩)])
 | _,_=>False
theorem sum_good:Good gSum:=by
 constructor
 ·intro args l K K' hk h
  unfold gSum at h ⊢
  split at h
  ·obtain ⟨M,h1,h2⟩:=h
   exact ⟨M,h1,fun ys cap hy=>hk _ _ (h2 ys cap hy)⟩
  ·exact h.elim
 ·intro args l K h
  unfold gSum at h
  split at h
  ·obtain ⟨M,h1,h2⟩:=h
   exact ⟨_,_,h2 (sha M) 32 ⟨rfl,rfl,Nat.le_refl _⟩⟩
  ·exact h.elim
set_option maxHeartbeats 4000000
theorem sum_ok (args:List SV) (l:List (Nat×Reg)) (K:SV→Mem→Prop) (hup:KUp K) (h:gSum args l K):∃U,execF cxSum U Tryz.f79 64 args (memL l) K:=by
 refine ⟨u0,?_⟩
 unfold gSum at h
 split at h
 ·rename_i ks h0 h1 h2 h3 h4 h5 h6 h7 xs nx len
  obtain ⟨M,⟨hk,k1,k2⟩,k3⟩:=h
  subst hk
  have:=vc_sum ⟨h0,h1,h2,h3,h4,h5,h6,h7⟩ xs nx len K
  unfold dgR i32 at this
  rw[this]
  rintro x0 rfl x1 rfl x2 rfl x3 rfl x4 rfl x5 rfl x6 rfl x7 rfl x8 rfl x9 rfl x10 rfl x11 rfl x12 rfl x13 rfl x14 rfl x15 rfl x16 rfl x17 rfl x18 rfl x19 rfl x20 rfl x21 rfl x22 rfl x23 rfl x24 rfl x25 rfl x26 rfl x27 rfl x28 rfl x29 rfl x30 rfl x31 rfl x32 rfl x33 rfl x34 rfl x35 rfl x36 rfl x37 rfl x38 rfl x39 rfl x40 rfl x41 rfl x42 rfl x43 rfl x44 rfl x45 rfl x46 rfl x47 rfl x48 rfl x49 rfl x50 rfl x51 rfl x52 rfl x53 rfl x54 rfl x55 rfl x56 rfl x57 rfl x58 rfl x59 rfl x60 rfl x61 rfl x62 rfl x63 rfl x64 rfl x65 rfl x66 rfl x67 rfl x68 rfl x69 rfl x70 rfl x71 rfl x72 rfl x73 rfl
  rw[list64 k1.xl]
  refine ⟨M,⟨rfl,k1,k2⟩,?_⟩
  rintro bs hbs x76 x77 x78 x79 ys80 rfl
  have hbl:bs.length=32:=by rw[hbs];rfl
  rw[list32 hbl]
  refine ⟨⟨trivial,by rw[hbl];exact Nat.le_refl _,by omega,by omega⟩,fun h=>absurd h (by omega),fun _=> ?_⟩
  rintro cap ys ⟨hc,hr,ht⟩
  rw[Nat.mul_one]at hr
  have hb:List.take 32 (List.drop 0 bs)=bs:=by rw[List.drop_zero,List.take_of_length_le (by omega)]
  rw[hb,List.nil_append,hbs]at ht
  refine hup.le (memL_sub [2,9,545,569,617] rfl (by decide) ?_) (k3 ys cap ⟨ht,hr,hc⟩)
  intro x hx
  simp only[List.mem_cons,List.not_mem_nil,or_false]at hx ⊢
  rcases hx with h | h | h
  ·exact .inl h
  ·exact .inr (.inl h)
  ·exact .inr (.inr (.inr (.inr h)))
 ·exact h.elim
def cSum:Ef Tryz.prog:=mkE mixed 79 Tryz.func79 (by decide) (by kernel_rfl) [1] [.parts dgSh true,.sl 1 false] gSum sum_good sum_ok
theorem vc_errn (b:ByteArray) (K:SV→Mem→Prop):(execF cx0 u0 Tryz.f75 64 [.val (.string b)] (memL []) K)=K (.iface 126 (.ptr 537 (.lit 0))) (memL [(537,⟨false,.cells [.val (.string b)]⟩)]):=by kernel_rfl
def gErr:G0:=fun args l K=>
 match args,l with
 | [.val (.string b)],[]=>K (.iface 126 (.ptr 537 (.lit 0))) (memL [(537,⟨false,.cells [.val (.string b)]⟩)])
 | _,_=>False
theorem err_good:Good gErr:=by
 constructor
 ·intro args l K K' hk h
  unfold gErr at h ⊢
  split at h
  ·exact hk _ _ h
  ·exact h.elim
 ·intro args l K h
  unfold gErr at h
  split at h
  ·exact ⟨_,_,h⟩
  ·exact h.elim
theorem err_ok (args:List SV) (l:List (Nat×Reg)) (K:SV→Mem→Prop) (_:KUp K) (h:gErr args l K):∃U,execF cx0 U Tryz.f75 64 args (memL l) K:=by
 refine ⟨u0,?_⟩
 unfold gErr at h
 split at h
 ·rw[vc_errn]
  exact h
 ·exact h.elim
def cErr:Ef Tryz.prog:=mkE mixed 75 Tryz.func75 (by decide) (by kernel_rfl) [] [.val] gErr err_good err_ok
end Go.Sx
namespace Go.Sx
open Go
def xorL (a b:List Int):List Int:=(List.range 32).map fun k=>bxor .u8 (a.getD k 0) (b.getD k 0)
def bI (first D:List Int):Nat→List Int
 | 0=>List.replicate 32 0
 | i+1=>sha (xorL first (bI first D i)++ [IntKind.u8.wrap ((i:Int)+1)]++D)
def outN (first D:List Int):Nat→List Int
 | 0=> []
 | i+1=>outN first D i++bI first D (i+1)
def domL (dst:List Int):List Int:=dst++ [IntKind.u8.wrap (dst.length:Nat)]
def firstL (msg dst:List Int) (n:Int):List Int:=sha (List.replicate 64 0++msg++ [IntKind.u8.wrap (IntKind.i64.wrap (Int.tdiv n 256)),IntKind.u8.wrap n,0]++domL dst)
def expand (msg dst:List Int) (n:Nat):List Int:=(outN (firstL msg dst n) (domL dst) ((n+31) / 32)).take n
theorem xorL_length (a b:List Int):(xorL a b).length=32:=by simp[xorL]
theorem xorL_bytes (a b:List Int):Bytes (xorL a b):=by
 intro x hx
 unfold xorL at hx
 obtain ⟨k,_,rfl⟩:=List.mem_map.1 hx
 exact u8_range _
theorem bI_length (first D:List Int):∀i,(bI first D i).length=32
 | 0=>by simp[bI]
 | i+1=>rfl
theorem bI_bytes (first D:List Int):∀i,Bytes (bI first D i)
 | 0=>by intro x hx;simp[bI]at hx;omega
 | i+1=>sha_bytes _
theorem outN_length (first D:List Int):∀i,(outN first D i).length=32*i
 | 0=>rfl
 | i+1=>by simp[outN,outN_length first D i,bI_length];omega
theorem domL_length (dst:List Int):(domL dst).length=dst.length+1:=by simp[domL]
theorem domL_bytes {dst:List Int} (h:Bytes dst):Bytes (domL dst):=by
 refine h.append ?_
 intro x hx
 simp only[List.mem_cons,List.not_mem_nil,or_false]at hx
 rw[hx]
 exact u8_range _
theorem outN_prefix (first D:List Int) {i j:Nat} (h:i≤j) {n:Nat} (hn:n≤32*i):(outN first D j).take n=(outN first D i).take n:=by
 induction j with
 | zero=>rw[show i=0 by omega]
 | succ j ih=>
  rcases Nat.lt_or_ge i (j+1)with hlt | hge
  ·rw[outN,List.take_append_of_le_length (by rw[outN_length];omega)]
   exact ih (by omega)
  ·rw[show i=j+1 by omega]
theorem xorL_congr {a a' b b':List Int} (ha:a.take 32=a'.take 32) (hb:b.take 32=b'.take 32):xorL a b=xorL a' b':=by
 unfold xorL
 apply List.map_congr_left
 intro k hk
 have hk:=List.mem_range.1 hk
 have e:∀x y:List Int,x.take 32=y.take 32→x.getD k 0=y.getD k 0:=by
  intro x y h
  have:=congrArg (fun l=>l.getD k 0) h
  simpa [List.getD_eq_getElem?_getD,List.getElem?_take,hk]using this
 rw[e _ _ ha,e _ _ hb]
theorem xorL_take {a b:List Int} {k:Nat} (h:k<32):(xorL a b).take (k+1)=(xorL a b).take k++ [bxor .u8 (a.getD k 0) (b.getD k 0)]:=by
 rw[List.take_add_one]
 congr 1
 unfold xorL
 simp[h]
end Go.Sx
namespace Go.Sx
open Go Go.Proofs
set_option maxRecDepth 100000
theorem vc_join4 (x1 x2 x3 x4:List Int) (n1 n2 n3 n4 c1 c2 c3 c4:Nat) (K:SV→Mem→Prop):(execF cx0 u9 Tryz.f36 64 [.slice 33 (.lit 0) (.lit 4) (.lit 4)] (memL [(1,⟨true,.ints .u8 x1⟩),(9,⟨true,.ints .u8 x2⟩),(17,⟨true,
 .ints .u8 x3⟩),(25,⟨true,.ints .u8 x4⟩),(33,⟨true,.cells [.slice 1 (.lit 0) (.sym n1) (.sym c1),.slice 9 (.lit 0) (.sym n2) (.sym c2),.slice 17 (.lit 0) (.sym n3) (.sym c3),.slice 25 (.lit 0) (.sym n4) (.sym c4)]⟩)]) K)=((((0:
 Nat)≤(0:Nat)∧(0:Nat)≤(0:Nat))∧Nat.le (0+n1*1) x1.length∧(0+n1)*1≤549755813888∧0+n1≤549755813888)∧∀(a:Nat) (b:List Int),0+n1≤a∧b.length=a*1∧List.take ((0+n1)*1) b=List.take 0
 (List.drop 0 [])++List.take (n1*1) (List.drop 0 x1)→(((n1≤a∧0+a*1≤b.length)∧Nat.le (0+n2*1) x2.length∧(n1+n2)*1≤549755813888∧n1+n2≤549755813888)∧∀(c:Nat) (d:List Int),n1+n2≤c∧d.length=c *
 1∧List.take ((n1+n2)*1) d=List.take (n1*1) (List.drop 0 b)++List.take (n2*1) (List.drop 0 x2)→(((n1+n2≤c∧0+c*1≤d.length)∧Nat.le (0+n3*1) x3.length∧(n1+n2+n3)*1≤549755813888∧n1+n2+n3≤
 549755813888)∧∀(e:Nat) (f:List Int),n1+n2+n3≤e∧f.length=e*1∧List.take ((n1+n2+n3)*1) f=List.take ((n1+n2)*1) (List.drop 0 d)++List.take (n3*1) (List.drop 0 x3)→(((n1+n2+n3≤e∧0+e*1≤
 f.length)∧Nat.le (0+n4*1) x4.length∧(n1+n2+n3+n4)*1≤549755813888∧n1+n2+n3+n4≤549755813888)∧∀(g:Nat) (h:List Int),n1+n2+n3+n4≤g∧h.length=g*1∧List.take ((n1+n2+n3+n4)*1) h=
 List.take ((n1+n2+n3)*1) (List.drop 0 f)++List.take (n4*1) (List.drop 0 x4)→K (.slice 953 (.lit 0) (.sym (n1+n2+n3+n4)) (.sym g)) (memL [(1,⟨true,.ints .u8 x1⟩),(9,⟨true,.ints .u8 x2⟩),(17,⟨true,.ints .u8 x3⟩),
 (25,⟨true,.ints .u8 x4⟩),(33,⟨true,.cells [.slice 1 (.lit 0) (.sym n1) (.sym c1),.slice 9 (.lit 0) (.sym n2) (.sym c2),.slice 17 (.lit 0) (.sym n3) (.sym c3),.slice 25 (.lit 0) (.sym n4) (.sym c4)]⟩),(953,⟨false,.ints .u8
 h⟩)]))))):=by kernel_rfl
theorem vc_join3 (x1 x2 x3:List Int) (n1 n2 n3 c1 c2 c3:Nat) (K:SV→Mem→Prop):(execF cx0 u9 Tryz.f36 64 [.slice 25 (.lit 0) (.lit 3) (.lit 3)] (memL [(1,⟨true,.ints .u8 x1⟩),(9,⟨true,.ints .u8 x2⟩),(17,⟨true,.ints .u8
 x3⟩),(25,⟨true,.cells [.slice 1 (.lit 0) (.sym n1) (.sym c1),.slice 9 (.lit 0) (.sym n2) (.sym c2),.slice 17 (.lit 0) (.sym n3) (.sym c3)]⟩)]) K)=((((0:Nat)≤(0:Nat)∧(0:Nat)≤(0:Nat))∧Nat.le (0+n1*1) x1.length∧(0
 + n1)*1≤549755813888∧0+n1≤549755813888)∧∀(a:Nat) (b:List Int),0+n1≤a∧b.length=a*1∧List.take ((0+n1)*1) b=List.take 0 (List.drop 0 [])++List.take (n1*1) (List.drop 0 x1)→(((n1≤a∧0+a*1≤
 b.length)∧Nat.le (0+n2*1) x2.length∧(n1+n2)*1≤549755813888∧n1+n2≤549755813888)∧∀(c:Nat) (d:List Int),n1+n2≤c∧d.length=c*1∧List.take ((n1+n2)*1) d=List.take (n1*1) (List.drop 0 b)++List.take
 (n2*1) (List.drop 0 x2)→(((n1+n2≤c∧0+c*1≤d.length)∧Nat.le (0+n3*1) x3.length∧(n1+n2+n3)*1≤549755813888∧n1+n2+n3≤549755813888)∧∀(e:Nat) (f:List Int),n1+n2+n3≤e∧f.length=e*1∧
 List.take ((n1+n2+n3)*1) f=List.take ((n1+n2)*1) (List.drop 0 d)++List.take (n3*1) (List.drop 0 x3)→K (.slice 841 (.lit 0) (.sym (n1+n2+n3)) (.sym e)) (memL [(1,⟨true,.ints .u8 x1⟩),(9,⟨true,.ints .u8 x2⟩),(17,
 ⟨true,.ints .u8 x3⟩),(25,⟨true,.cells [.slice 1 (.lit 0) (.sym n1) (.sym c1),.slice 9 (.lit 0) (.sym n2) (.sym c2),.slice 17 (.lit 0) (.sym n3) (.sym c3)]⟩),(841,⟨false,.ints .u8 f⟩)])))):=by kernel_rfl
theorem vc_joinn (x1 x3 x4:List Int) (n1 n3 n4 c1 c3 c4:Nat) (K:SV→Mem→Prop):(execF cx0 u9 Tryz.f36 64 [.slice 25 (.lit 0) (.lit 4) (.lit 4)] (memL [(1,⟨true,.ints .u8 x1⟩),(9,⟨true,.ints .u8 x3⟩),(17,⟨true,.ints .u8
 x4⟩),(25,⟨true,.cells [.slice 1 (.lit 0) (.sym n1) (.sym c1),.val (.slice none 0 0),.slice 9 (.lit 0) (.sym n3) (.sym c3),.slice 17 (.lit 0) (.sym n4) (.sym c4)]⟩)]) K)=((((0:Nat)≤(0:Nat)∧(0:Nat)≤(0:Nat))∧Nat.le (0
 + n1*1) x1.length∧(0+n1)*1≤549755813888∧0+n1≤549755813888)∧∀(a:Nat) (b:List Int),0+n1≤a∧b.length=a*1∧List.take ((0+n1)*1) b=List.take 0 (List.drop 0 [])++List.take (n1*1) (List.drop 0 x1)→
 (((n1≤a∧0+a*1≤b.length)∧True∧(n1+0)*1≤549755813888∧n1+0≤549755813888)∧∀(c:Nat) (d:List Int),n1+0≤c∧d.length=c*1∧List.take ((n1+0)*1) d=List.take (n1*1) (List.drop 0 b)++ []→(((n1+0
 ≤c∧0+c*1≤d.length)∧Nat.le (0+n3*1) x3.length∧(n1+0+n3)*1≤549755813888∧n1+0+n3≤549755813888)∧∀(e:Nat) (f:List Int),n1+0+n3≤e∧f.length=e*1∧List.take ((n1+0+n3)*1) f=List.take
 ((n1+0)*1) (List.drop 0 d)++List.take (n3*1) (List.drop 0 x3)→(((n1+0+n3≤e∧0+e*1≤f.length)∧Nat.le (0+n4*1) x4.length∧(n1+0+n3+n4)*1≤549755813888∧n1+0+n3+n4≤549755813888)∧∀(g:Nat) (h
 :List Int),n1+0+n3+n4≤g∧h.length=g*1∧List.take ((n1+0+n3+n4)*1) h=List.take ((n1+0+n3)*1) (List.drop 0 f)++List.take (n4*1) (List.drop 0 x4)→K (.slice 953 (.lit 0) (.sym (n1+0+n3+n4)) (.sym g))
 (memL [(1,⟨true,.ints .u8 x1⟩),(9,⟨true,.ints .u8 x3⟩),(17,⟨true,.ints .u8 x4⟩),(25,⟨true,.cells [.slice 1 (.lit 0) (.sym n1) (.sym c1),.val (.slice none 0 0),.slice 9 (.lit 0) (.sym n3) (.sym c3),.slice 17 (.lit 0) (.sym n4)
 (.sym c4)]⟩),(953,⟨false,.ints .u8 h⟩)]))))):=by kernel_rfl
structure Rw (ys xs:List Int) (n cap:Nat):Prop where
 xl:xs.length=n
 le:n≤cap
 len:ys.length=cap
 row:ys.take n=xs
theorem Rw.self (xs:List Int):Rw xs xs xs.length xs.length:=⟨rfl,Nat.le_refl _,rfl,List.take_of_length_le (Nat.le_refl _)⟩
theorem Rw.step {ys xs zs us:List Int} {n m cap cap':Nat} (h:Rw ys xs n cap) (hz:zs.length=m) (hc:n+m≤cap') (hl:us.length=cap') (ht:us.take (n+m)=ys.take n++zs):Rw us (xs++zs) (n+m) cap':=
 ⟨by rw[List.length_append,h.xl,hz],hc,hl,by rw[ht,h.row]⟩
def gJoin:G0:=fun args l K=>
 match args,l with
 | [.slice 33 (.lit 0) (.lit 4) (.lit 4)],[(1,⟨true,.ints .u8 x1⟩),(9,⟨true,.ints .u8 x2⟩),(17,⟨true,.ints .u8 x3⟩),(25,⟨true,.ints .u8 x4⟩),(33,⟨true,.cells [.slice 1 (.lit 0) (.sym n1) (.sym c1),.slice 9 (.lit 0) (.sym n2) (.sym c2),.slice 17 (.lit 0) (.sym n3) (.sym c3),.slice 25 (.lit 0) (.sym n4) (.sym c4)]⟩)]=>
  ((x1.length=n1∧x2.length=n2∧x3.length=n3∧x4.length=n4)∧n1+n2+n3+n4≤2 ^ 39)∧
  ∀ys cap n,Rw ys (x1++x2++x3++x4) n cap→K (.slice 953 (.lit 0) (.sym n) (.sym cap)) (memL [(1,⟨true,.ints .u8 x1⟩),(9,⟨true,.ints .u8 x2⟩),(17,⟨true,.ints .u8 x3⟩),(25,⟨true,.ints .u8 x4⟩),
   (33,⟨true,.cells [.slice 1 (.lit 0) (.sym n1) (.sym c1),.slice 9 (.lit 0) (.sym n2) (.sym c2),.slice 17 (.lit 0) (.sym n3) (.sym c3),.slice 25 (.lit 0) (.sym n4) (.sym c4)]⟩),(953,⟨false,.ints .u8 ys⟩)])
 | [.slice 25 (.lit 0) (.lit 3) (.lit 3)],[(1,⟨true,.ints .u8 x1⟩),(9,⟨true,.ints .u8 x2⟩),(17,⟨true,.ints .u8 x3⟩),(25,⟨true,.cells [.slice 1 (.lit 0) (.sym n1) (.sym c1),.slice 9 (.lit 0) (.sym n2) (.sym c2),.slice 17 (.lit 0) (.sym n3) (.sym c3)]⟩)]=>
  ((x1.length=n1∧x2.length=n2∧x3.length=n3)∧n1+n2+n3≤2 ^ 39)∧
  ∀ys cap n,Rw ys (x1++x2++x3) n cap→K (.slice 841 (.lit 0) (.sym n) (.sym cap)) (memL [(1,⟨true,.ints .u8 x1⟩),(9,⟨true,.ints .u8 x2⟩),(17,⟨true,.ints .u8 x3⟩),
   (25,⟨true,.cells [.slice 1 (.lit 0) (.sym n1) (.sym c1),.slice 9 (.lit 0) (.sym n2) (.sym c2),.slice 17 (.lit 0) (.sym n3) (.sym c3)]⟩),(841,⟨false,.ints .u8 ys⟩)])
 | [.slice 25 (.lit 0) (.lit 4) (.lit 4)],[(1,⟨true,.ints .u8 x1⟩),(9,⟨true,.ints .u8 x3⟩),(17,⟨true,.ints .u8 x4⟩),(25,⟨true,.cells [.slice 1 (.lit 0) (.sym n1) (.sym c1),.val (.slice none 0 0),.slice 9 (.lit 0) (.sym n3) (.sym c3),.slice 17 (.lit 0) (.sym n4) (.sym c4)]⟩)]=>
  ((x1.length=n1∧x3.length=n3∧x4.length=n4)∧n1+n3+n4≤2 ^ 39)∧
  ∀ys cap n,Rw ys (x1++x3++x4) n cap→K (.slice 953 (.lit 0) (.sym n) (.sym cap)) (memL [(1,⟨true,.ints .u8 x1⟩),(9,⟨true,.ints .u8 x3⟩),(17,⟨true,.ints .u8 x4⟩),
   (25,⟨true,.cells [.slice 1 (.lit 0) (.sym n1) (.sym c1),.val (.slice none 0 0),.slice 9 (.lit 0) (.sym n3) (.sym c3),.slice 17 (.lit 0) (.sym n4) (.sym c4)]⟩),(953,⟨false,.ints .u8 ys⟩)])
 | _,_=>False
theorem join_good:Good gJoin:=by
 constructor
 ·intro args l K K' hk h
  unfold gJoin at h ⊢
  split at h
  ·exact ⟨h.1,fun ys cap n hy=>hk _ _ (h.2 ys cap n hy)⟩
  ·exact ⟨h.1,fun ys cap n hy=>hk _ _ (h.2 ys cap n hy)⟩
  ·exact ⟨h.1,fun ys cap n hy=>hk _ _ (h.2 ys cap n hy)⟩
  ·exact h.elim
 ·intro args l K h
  unfold gJoin at h
  split at h
  ·exact ⟨_,_,h.2 _ _ _ (Rw.self _)⟩
  ·exact ⟨_,_,h.2 _ _ _ (Rw.self _)⟩
  ·exact ⟨_,_,h.2 _ _ _ (Rw.self _)⟩
  ·exact h.elim
theorem Rw.first {ys xs:List Int} {n cap:Nat} (hx:xs.length=n) (h:0+n≤cap∧ys.length=cap*1∧ys.take ((0+n)*1)=List.take 0 (List.drop 0 [])++List.take (n*1) (List.drop 0 xs)):Rw ys xs n cap:=by
 simp only[Nat.zero_add,Nat.mul_one,List.drop_zero,List.take_zero,List.nil_append]at h
 exact ⟨hx,h.1,h.2.1,by rw[h.2.2,List.take_of_length_le (by omega)]⟩
theorem Rw.next {ys xs zs us:List Int} {n m cap cap':Nat} (h:Rw ys xs n cap) (hz:zs.length=m) (hu:n+m≤cap'∧us.length=cap'*1∧us.take ((n+m)*1)=List.take (n*1) (List.drop 0 ys)++List.take (m*1) (List.drop 0 zs)):
  Rw us (xs++zs) (n+m) cap':=by
 simp only[Nat.mul_one,List.drop_zero]at hu
 exact h.step hz hu.1 hu.2.1 (by rw[hu.2.2,List.take_of_length_le (by omega:zs.length≤m)])
theorem Rw.fits {ys xs:List Int} {n cap:Nat} (h:Rw ys xs n cap):n≤cap∧0+cap*1≤ys.length:=⟨h.le,by rw[h.len];omega⟩
theorem Rw.nothing {ys xs us:List Int} {n cap cap':Nat} (h:Rw ys xs n cap) (hu:n+0≤cap'∧us.length=cap'*1∧us.take ((n+0)*1)=List.take (n*1) (List.drop 0 ys)++ []):
  Rw us xs (n+0) cap':=by
 have:=h.next (zs:= []) (m:=0) rfl (by simpa using hu)
 rwa [List.append_nil]at this
theorem join_ok (args:List SV) (l:List (Nat×Reg)) (K:SV→Mem→Prop) (_:KUp K) (h:gJoin args l K):∃U,execF cx0 U Tryz.f36 64 args (memL l) K:=by
 refine ⟨u9,?_⟩
 unfold gJoin at h
 split at h
 ·obtain ⟨⟨⟨h1,h2,h3,h4⟩,h5⟩,h6⟩:=h
  rw[vc_join4]
  refine ⟨⟨by omega,nle (by omega),by omega,by omega⟩,fun cap1 y1 e1=> ?_⟩
  have r1:=Rw.first h1 e1
  refine ⟨⟨r1.fits,nle (by omega),by omega,by omega⟩,fun cap2 y2 e2=> ?_⟩
  have r2:=r1.next h2 e2
  refine ⟨⟨r2.fits,nle (by omega),by omega,by omega⟩,fun cap3 y3 e3=> ?_⟩
  have r3:=r2.next h3 e3
  refine ⟨⟨r3.fits,nle (by omega),by omega,by omega⟩,fun cap4 y4 e4=> ?_⟩
  exact h6 _ _ _ (r3.next h4 e4)
 ·obtain ⟨⟨⟨h1,h2,h3⟩,h5⟩,h6⟩:=h
  rw[vc_join3]
  refine ⟨⟨by omega,nle (by omega),by omega,by omega⟩,fun cap1 y1 e1=> ?_⟩
  have r1:=Rw.first h1 e1
  refine ⟨⟨r1.fits,nle (by omega),by omega,by omega⟩,fun cap2 y2 e2=> ?_⟩
  have r2:=r1.next h2 e2
  refine ⟨⟨r2.fits,nle (by omega),by omega,by omega⟩,fun cap3 y3 e3=> ?_⟩
  exact h6 _ _ _ (r2.next h3 e3)
 ·obtain ⟨⟨⟨h1,h3,h4⟩,h5⟩,h6⟩:=h
  rw[vc_joinn]
  refine ⟨⟨by omega,nle (by omega),by omega,by omega⟩,fun cap1 y1 e1=> ?_⟩
  have r1:=Rw.first h1 e1
  refine ⟨⟨r1.fits,trivial,by omega,by omega⟩,fun cap2 y2 e2=> ?_⟩
  have r2:=r1.nothing e2
  refine ⟨⟨r2.fits,nle (by omega),by omega,by omega⟩,fun cap3 y3 e3=> ?_⟩
  have r3:=r2.next h3 e3
  refine ⟨⟨r3.fits,nle (by omega),by omega,by omega⟩,fun cap4 y4 e4=> ?_⟩
  exact h6 _ _ _ (r3.next h4 e4)
 ·exact h.elim
def cJoin:Ef Tryz.prog:=mkE mixed 36 Tryz.func36 (by decide) (by kernel_rfl) [] [.sls] gJoin join_good join_ok
def rConst:R0:=fun args l=>
 match args,l with
 | [],[]=>some (none,.agg (kL.map fun x=> .int .u32 (.lit x)))
 | _,_=>none
theorem const_ok (args:List SV) (l:List (Nat×Reg)) (p:Ob) (v:SV) (h:rConst args l=some (p,v)) (_:p.ok):∃U,execF cx0 U Tryz.f99 64 args (memL l) fun v' _=>v'=v:=by
 refine ⟨u0,?_⟩
 unfold rConst at h
 split at h
 ·simp only[Option.some.injEq,Prod.mk.injEq]at h
  obtain ⟨rfl,rfl⟩:=h
  rw[vc_const]
  rfl
 ·cases h
def cConst:Rd Tryz.prog:=mkR mixed 99 Tryz.func99 (by decide) (by kernel_rfl) [] [] rConst const_ok
def cxSB:Cx Tryz.prog:= { rds:= [cTurned,cConst],efs:= [],eqs:= [] }
end Go.Sx
namespace Go.Sx
open Go Go.Proofs
def i64n (n:Nat):SV:= .int .i64 (.sym (n:Nat))
def liSB0 (xs:List Int):LI where
 ι:=Nat×List Int
 keep:= [0,1,2,4,5]
 keepR:= [1,513,521]
 F:=fun i=>⟨[(6,i64n i.1)],[(537,⟨false,.ints .u32 i.2⟩)]⟩
 I:=fun _ i=>i.1≤16∧i.2.length=64∧∀j,j<i.1→i.2.getD j 0=W xs j
 μ:=fun i=>16-i.1
def liSB2 (xs:List Int):LI where
 ι:=Nat×List Int
 keep:= [0,1,2,4,5]
 keepR:= [1,513,521]
 F:=fun i=>⟨[(7,i64n i.1)],[(537,⟨false,.ints .u32 i.2⟩)]⟩
 I:=fun _ i=>16≤i.1∧i.1≤64∧i.2.length=64∧∀j,j<i.1→i.2.getD j 0=W xs j
 μ:=fun i=>64-i.1
def liSB4 (H:S8) (xs:List Int):LI where
 ι:=Nat
 keep:= [0,1,2,4,5,10,11]
 keepR:= [1,513,521,537]
 F:=fun i=>⟨[(12,i64n i)],[(617,⟨false,.ints .u32 kL⟩),(625,⟨false,s8C (rounds H xs i)⟩)]⟩
 I:=fun _ i=>i≤64
 μ:=fun i=>64-i
def uSB (H:S8) (xs:List Int):Nat→Lp:=fun n=>
 match n with
 | 0=> .inv (liSB0 xs)
 | 2=> .inv (liSB2 xs)
 | 4=> .inv (liSB4 H xs)
 | _=> .un 9
def cxEX:Cx Tryz.prog:= { rds:= [cSize,cBsz],efs:= [cNew,cReset,cWrite,cSum,cErr],eqs:= [] }
structure ExI where
 j:Nat
 b:List Int
 bc:Nat
 res:List Int
 H:S8
 x:List Int
 nx:Int
 len:Int
def liEX0 (rd:Nat) (first D:List Int) (n:Int):LI where
 ι:=ExI
 keep:= [1,2,8,9,10,21,31]
 keepR:= [2,rd,1177]
 F:=fun i=>⟨[(30,.slice 1641 (.lit 0) (.lit 32) (.sym i.bc)),(32,.int .i64 (.sym ((i.j:Nat)+1)))],
  [(529,dgR false i.H i.x i.nx i.len),(1641,⟨false,.ints .u8 i.b⟩),(1569,⟨false,.ints .u8 i.res⟩)]⟩
 I:=fun _ i=>1≤i.j∧32*(i.j:Int)<n+32∧Rw i.b (bI first D i.j) 32 i.bc∧(i.res.length:Int)=n∧i.res.take (32*i.j)=(outN first D i.j).take n.toNat∧i.x.length=64
 μ:=fun i=>n.toNat+32-32*i.j
 k:=1
def liEX2 (rd:Nat):LI where
 ι:=Nat×List Int
 keep:= [1,2,8,9,10,21,30,31,32,33]
 keepR:= [2,rd,529,1177,1569,1641]
 F:=fun i=>⟨[(34,i64n i.1)],[(1705,⟨false,.ints .u8 i.2⟩)]⟩
 I:=fun st i=>i.2.length=32∧i.2.take i.1=(xorL (st.reg 1177) (st.reg 1641)).take i.1∧i.1≤32
 μ:=fun i=>32-i.1
def uEX (rd:Nat) (msg dst:List Int) (n:Int):Nat→Lp:=fun b=>
 match b with
 | 0=> .inv (liEX0 rd (firstL msg dst n) (domL dst) n)
 | 2=> .inv (liEX2 rd)
 | _=> .un 0
end Go.Sx
namespace Go.Sx
open Go Go.Proofs
set_option maxRecDepth 100000
theorem vc_ex (msg dst:List Int) (l c l2 c2:Nat) (n:Int) (K:SV→Mem→Prop):(execF cxEX (uEX 17 msg dst n) Tryz.f47 64 [.slice 9 (.lit 0) (.sym l) (.sym c),.slice 17 (.lit 0) (.sym l2) (.sym c2),.int .i64 (.sym n)] (memL [(2,
 ⟨true,.ints .u32 kL⟩),(9,⟨true,.ints .u8 msg⟩),(17,⟨true,.ints .u8 dst⟩)]) K)=(∀G:List Int,G=List.replicate 64 (0:Int)→∀x1,x1=IntKind.wrap IntKind.i64 (n+32)→∀x2,x2=IntKind.wrap IntKind.i64 (x1-1)→∀j,j
 =IntKind.wrap IntKind.i64 (Int.tdiv x2 (32:Int))→(decide (j>255)=true→K (.tup [.val (.slice none 0 0),.iface 126 (.ptr 633 (.lit 0))]) (memL [(2,⟨true,.ints .u32 kL⟩),(9,⟨true,.ints .u8 msg⟩),(17,⟨true,.ints .u8 dst⟩),
 (529,⟨false,.segs [.cells [.int .u32 (.sym 1779033703),.int .u32 (.sym 3144134277),.int .u32 (.sym 1013904242),.int .u32 (.sym 2773480762),.int .u32 (.sym 1359893119),.int .u32 (.sym 2600822924),.int .u32 (.sym 528734635),.int
 .u32 (.sym 1541459225)],.ints .u8 64 G,.cells [.int .i64 (.sym 0),.int .u64 (.sym 0),.bool (.lit false)]]⟩),(633,⟨false,.cells [.val (.string ⟨⟨[105,110,118,97,108,105,100,32,108,101,110,73,110,66,121,116,101,
 115]⟩⟩)]⟩)]))∧(decide (j>255)=false→∀J:Int,J=((l2:Nat):Int)→(decide (J>255)=true→K (.tup [.val (.slice none 0 0),.iface 126 (.ptr 657 (.lit 0))]) (memL [(2,⟨true,.ints .u32 kL⟩),(9,⟨true,.ints .u8 msg⟩),(17,
 ⟨true,.ints .u8 dst⟩),(529,⟨false,.segs [.cells [.int .u32 (.sym 1779033703),.int .u32 (.sym 3144134277),.int .u32 (.sym 1013904242),.int .u32 (.sym 2773480762),.int .u32 (.sym 1359893119),.int .u32 (.sym 2600822924),.int .u32
 (.sym 528734635),.int .u32 (.sym 1541459225)],.ints .u8 64 G,.cells [.int .i64 (.sym 0),.int .u64 (.sym 0),.bool (.lit false)]]⟩),(657,⟨false,.cells [.val (.string ⟨⟨[105,110,118,97,108,105,100,32,100,111,109,97,105,
 110,32,115,105,122,101,32,40,62,50,53,53,32,98,121,116,101,115,41]⟩⟩)]⟩)]))∧(decide (J>255)=false→∀x5:Int,x5=((l2:Nat):Int)→∀f,f=IntKind.wrap IntKind.u8 x5→∀ax:List Int,ax=G→((0:Int)≤
 (64:Int)∧(64:Int)≤(140737488355328:Int)∧(64:Int)≤(140737488355328:Int))∧((64:Nat)≤(64:Nat)∧∃L:List Int,(kL=kL∧Abs L (S8.mk (1779033703:Int) (3144134277:Int) (1013904242:Int) (2773480762:Int)
 (1359893119:Int) (2600822924:Int) (528734635:Int) (1541459225:Int)) ax (0:Int) (0:Int)∧Bytes (List.take 64 (List.drop 0 (List.replicate 64 (0:Int))))∧(64:Nat)=(64:Nat)∧(64:Nat)≤(64:Nat)∧(64:Nat)≤(65536
 :Nat)∧L.length<1099511627776)∧∀(o:S8) (ay:List Int) (az a0:Int),Abs (L++List.take 64 (List.drop 0 (List.replicate 64 (0:Int)))) o ay az a0→∀a1:List Int,a1=ay→(0+l*1≤msg.length∧∃M:List Int,(kL=kL∧
 Abs M o a1 az a0∧Bytes (List.take (l*1) (List.drop 0 msg))∧List.length (List.take (l*1) (List.drop 0 msg))=l∧l≤c∧l≤65536∧M.length <
 1099511627776)∧∀(p:S8) (a2:List Int) (a3 a4:Int),Abs (M++List.take (l*1) (List.drop 0 msg)) p a2 a3 a4→∀a5:List Int,a5=a2→∀a6,a6=shrv .i64 n 8→∀D,D=IntKind.wrap IntKind.u8 a6→∀E,E=IntKind.wrap
 IntKind.u8 n→(3≤List.length [D,E,(0:Int)]∧∃N:List Int,(kL=kL∧Abs N p a5 a3 a4∧Bytes (List.take 3 (List.drop 0 [D,E,(0:Int)]))∧
 List.length (List.take 3 (List.drop 0 [D,E,(0:Int)]))=3∧(3:Nat)≤(3:Nat)∧(3:Nat)≤(65536:Nat)∧N.length<1099511627776)∧∀(q:S8) (a7:List Int) (a8 a9:Int),Abs (N++List.take 3 (List.drop 0 [D,E,(0:
 Int)])) q a7 a8 a9→∀ba:List Int,ba=a7→(0+l2*1≤dst.length∧∃O:List Int,(kL=kL∧Abs O q ba a8 a9∧Bytes (List.take (l2*1) (List.drop 0
 dst))∧List.length (List.take (l2*1) (List.drop 0 dst))=l2∧l2≤c2∧l2≤65536∧O.length<1099511627776)∧∀(r:S8) (bb:List Int) (bc bd:Int),Abs (O++List.take (l2*1) (List.drop 0 dst)) r bb bc bd→∀be:List Int,be
 =bb→(1≤List.length [f]∧∃Q:List Int,(kL=kL∧Abs Q r be bc bd∧Bytes (List.take 1 (List.drop 0 [f]))∧List.length (List.take 1 (List.drop 0 [f]))=
 1∧(1:Nat)≤(1:Nat)∧(1:Nat)≤(65536:Nat)∧Q.length<1099511627776)∧∀(s:S8) (bf:List Int) (bg bh:Int),Abs (Q++List.take 1 (List.drop 0 [f])) s bf bg bh→∀R:List Int,R=bf→∃S:List Int,(kL=kL∧Abs S
 s R bg bh∧S.length<549755813888)∧∀(T:List Int) (k:Nat),List.take 32 T=sha S∧T.length=k∧32≤k→∀g:List Int,g=T→∀bi:List Int,bi=
 R→(32≤g.length∧∃V:List Int,(kL=kL∧Abs V (S8.mk (1779033703:Int) (3144134277:Int) (1013904242:Int) (2773480762:Int) (1359893119:Int) (2600822924:Int) (528734635:Int) (1541459225:Int)) bi (0:Int) (0:Int)∧
 Bytes (List.take 32 (List.drop 0 g))∧List.length (List.take 32 (List.drop 0 g))=32∧32≤k∧(32:Nat)≤(65536:Nat)∧V.length<1099511627776)∧∀(t:S8) (bj:List Int) (bk bl:Int),Abs (V++List.take 32 (List.drop 0 g)) t
 bj bk bl→∀bm:List Int,bm=bj→((1:Nat)≤(1:Nat)∧∃X:List Int,(kL=kL∧Abs X t bm bk bl∧Bytes (List.take 1 (List.drop 0 [(1:Int)]))∧(1:
 Nat)=(1:Nat)∧(1:Nat)≤(1:Nat)∧(1:Nat)≤(65536:Nat)∧X.length<1099511627776)∧∀(u:S8) (bn:List Int) (bo bp:Int),Abs (X++List.take 1 (List.drop 0 [(1:Int)])) u bn bo bp→∀bq:List Int,bq=bn→(0+l2 *
 1≤dst.length∧∃Y:List Int,(kL=kL∧Abs Y u bq bo bp∧Bytes (List.take (l2*1) (List.drop 0 dst))∧List.length (List.take (l2*1) (List.drop 0 dst))
 =l2∧l2≤c2∧l2≤65536∧Y.length<1099511627776)∧∀(v:S8) (br:List Int) (bs bt:Int),Abs (Y++List.take (l2*1) (List.drop 0 dst)) v br bs bt→∀bu:List Int,bu=br→(1≤List.length [f]∧∃Z:List Int,(kL=kL∧
 Abs Z v bu bs bt∧Bytes (List.take 1 (List.drop 0 [f]))∧List.length (List.take 1 (List.drop 0 [f]))=1∧(1:Nat)≤(1:Nat)∧(1:Nat)≤(65536:Nat)∧
 Z.length<1099511627776)∧∀(h:S8) (bv:List Int) (aa ab:Int),Abs (Z++List.take 1 (List.drop 0 [f])) h bv aa ab→∀ac:List Int,ac=bv→∃ad:List Int,(kL=kL∧Abs ad (S8.mk (S8.a h) (S8.b h) (S8.c h) (S8.d h) (S8.e h)
 (S8.f h) (S8.g h) (S8.h h)) ac aa ab∧ad.length<549755813888)∧∀(ae:List Int) (af:Nat),List.take 32 ae=sha ad∧ae.length=af∧32≤af→∀H:List Int,H=ae→(0≤n∧n*1≤140737488355328∧n≤140737488355328)∧((0:
 Int)≤(32:Int)∧32≤((Int.toNat n:Nat):Int))∧(32≤H.length∧32≤List.length (List.replicate (Int.toNat n*1) (0:Int)))∧((∃e:ExI,(1≤ExI.j e∧32*((ExI.j e:Nat):Int)<n+32∧Rw (ExI.b e) (bI (firstL msg dst
 n) (domL dst) (ExI.j e)) (32:Nat) (ExI.bc e)∧((List.length (ExI.res e):Nat):Int)=n∧List.take (32*ExI.j e) (ExI.res e)=List.take (Int.toNat n) (outN (firstL msg dst n) (domL dst) (ExI.j e))∧List.length (ExI.x e)=64)∧
 ((l2=l2∧c2=c2)∧n=n∧j=j∧f=f∧k=k∧(Int.toNat n=Int.toNat n∧Int.toNat n=Int.toNat n)∧af=ExI.bc e∧2=((ExI.j e:Nat):Int)+1)∧kL=kL∧dst=dst∧g=g∧((S8.a h=S8.a (ExI.H e)∧S8.b h=S8.b
 (ExI.H e)∧S8.c h=S8.c (ExI.H e)∧S8.d h=S8.d (ExI.H e)∧S8.e h=S8.e (ExI.H e)∧S8.f h=S8.f (ExI.H e)∧S8.g h=S8.g (ExI.H e)∧S8.h h=S8.h (ExI.H e))∧ac=ExI.x e∧aa=ExI.nx e∧ab=ExI.len e)∧H=ExI.b e∧splice
 (List.replicate (Int.toNat n*1) (0:Int)) (0:Nat) (List.take 32 (List.drop 0 H))=ExI.res e)∧∀a:ExI,1≤ExI.j a∧32*((ExI.j a:Nat):Int)<n+32∧Rw (ExI.b a) (bI (firstL msg dst n) (domL dst) (ExI.j a)) (32:Nat)
 (ExI.bc a)∧((List.length (ExI.res a):Nat):Int)=n∧List.take (32*ExI.j a) (ExI.res a)=List.take (Int.toNat n) (outN (firstL msg dst n) (domL dst) (ExI.j a))∧List.length (ExI.x a)=64→(decide (((ExI.j a:Nat):Int)+1≤
 j)=true→∀C:List Int,C=ExI.x a→((0:Int)≤(32:Int)∧(32:Int)≤(140737488355328:Int)∧(32:Int)≤(140737488355328:Int))∧((∃A:Prod Nat (List Int),(List.length (Prod.snd A)=32∧List.take (Prod.fst A)
 (Prod.snd A)=List.take (Prod.fst A) (xorL g (ExI.b a))∧Prod.fst A≤32)∧((l2=l2∧c2=c2)∧n=n∧j=j∧f=f∧k=k∧ExI.bc a=ExI.bc a∧(Int.toNat n=Int.toNat n∧Int.toNat n=Int.toNat n)∧((ExI.j a:Nat):Int) +
 1=((ExI.j a:Nat):Int)+1∧0=((Prod.fst A:Nat):Int))∧kL=kL∧dst=dst∧(((1779033703:Int)=(1779033703:Int)∧(3144134277:Int)=(3144134277:Int)∧(1013904242:Int)=(1013904242:Int)∧(2773480762:Int)=
 (2773480762:Int)∧(1359893119:Int)=(1359893119:Int)∧(2600822924:Int)=(2600822924:Int)∧(528734635:Int)=(528734635:Int)∧(1541459225:Int)=(1541459225:Int))∧C=C∧(0:Int)=(0:Int)∧(0:Int)=(0:
 Int))∧g=g∧ExI.res a=ExI.res a∧ExI.b a=ExI.b a∧List.replicate 32 (0:Int)=Prod.snd A)∧∀b:Prod Nat (List Int),List.length (Prod.snd b)=32∧List.take (Prod.fst b) (Prod.snd b)=List.take (Prod.fst b) (xorL g (ExI.b
 a))∧Prod.fst b≤32→(decide (((Prod.fst b:Nat):Int)<32)=true→(0≤((Prod.fst b:Nat):Int)∧((Prod.fst b:Nat):Int)<32)∧(Int.toNat ((Prod.fst b:Nat):Int)*1+1≤g.length∧∀bw:Int,bw=List.getD g
 (Int.toNat ((Prod.fst b:Nat):Int)*1) (0:Int)→(0≤((Prod.fst b:Nat):Int)∧((Prod.fst b:Nat):Int)<32)∧(Int.toNat ((Prod.fst b:Nat):Int)*1+1≤List.length (ExI.b a)∧∀bx:Int,bx=List.getD (ExI.b a)
 (Int.toNat ((Prod.fst b:Nat):Int)*1) (0:Int)→∀bz,bz=bxor .u8 bw bx→(0≤((Prod.fst b:Nat):Int)∧((Prod.fst b:Nat):Int)<32)∧(Int.toNat ((Prod.fst b:Nat):Int)*1<List.length (Prod.snd b)∧∀b0,b0=
 IntKind.wrap IntKind.i64 (((Prod.fst b:Nat):Int)+1)→∃z:Prod Nat (List Int),(List.length (Prod.snd z)=32∧List.take (Prod.fst z) (Prod.snd z)=List.take (Prod.fst z) (xorL g (ExI.b a))∧Prod.fst z≤32)∧(((l2=l2∧c2=
 c2)∧n=n∧j=j∧f=f∧k=k∧ExI.bc a=ExI.bc a∧(Int.toNat n=Int.toNat n∧Int.toNat n=Int.toNat n)∧((ExI.j a:Nat):Int)+1=((ExI.j a:Nat):Int)+1∧b0=((Prod.fst z:Nat):Int))∧kL=kL∧dst=dst∧
 (((1779033703:Int)=(1779033703:Int)∧(3144134277:Int)=(3144134277:Int)∧(1013904242:Int)=(1013904242:Int)∧(2773480762:Int)=(2773480762:Int)∧(1359893119:Int)=(1359893119:Int)∧(2600822924:Int)=
 (2600822924:Int)∧(528734635:Int)=(528734635:Int)∧(1541459225:Int)=(1541459225:Int))∧C=C∧(0:Int)=(0:Int)∧(0:Int)=(0:Int))∧g=g∧ExI.res a=ExI.res a∧ExI.b a=ExI.b a∧List.set (Prod.snd b)
 (Int.toNat ((Prod.fst b:Nat):Int)*1) bz=Prod.snd z)∧32-Prod.fst z<32-Prod.fst b))))∧(decide (((Prod.fst b:Nat):Int)<32)=false→(32≤List.length (Prod.snd b)∧∃ag:List Int,(kL=kL∧Abs ag (S8.mk
 (1779033703:Int) (3144134277:Int) (1013904242:Int) (2773480762:Int) (1359893119:Int) (2600822924:Int) (528734635:Int) (1541459225:Int)) C (0:Int) (0:Int)∧Bytes (List.take 32 (List.drop 0 (Prod.snd b)))∧List.length
 (List.take 32 (List.drop 0 (Prod.snd b)))=32∧(32:Nat)≤(32:Nat)∧(32:Nat)≤(65536:Nat)∧ag.length<1099511627776)∧∀(w:S8) (b1:List Int) (b2 b3:Int),Abs (ag++List.take 32 (List.drop 0 (Prod.snd b))) w b1 b2 b3→
 ∀b4:List Int,b4=b1→∀F,F=IntKind.wrap IntKind.u8 (((ExI.j a:Nat):Int)+1)→(1≤List.length [F]∧∃ah:List Int,(kL=kL∧Abs ah w b4 b2 b3
 ∧Bytes (List.take 1 (List.drop 0 [F]))∧List.length (List.take 1 (List.drop 0 [F]))=1∧(1:Nat)≤(1:Nat)∧(1:Nat)≤(65536:Nat)∧ah.length<1099511627776)∧∀(x:S8) (b5:List Int) (b6 b7:Int),Abs (ah++List.take 1
 (List.drop 0 [F])) x b5 b6 b7→∀b8:List Int,b8=b5→(0+l2*1≤dst.length∧∃ai:List Int,(kL=kL∧Abs ai x b8 b6 b7∧Bytes (List.take (l2*1)
 (List.drop 0 dst))∧List.length (List.take (l2*1) (List.drop 0 dst))=l2∧l2≤c2∧l2≤65536∧ai.length<1099511627776)∧∀(y:S8) (b9:List Int) (ca cb:Int),Abs (ai++List.take (l2*1) (List.drop 0 dst)) y b9 ca cb→∀cc
 :List Int,cc=b9→(1≤List.length [f]∧∃aj:List Int,(kL=kL∧Abs aj y cc ca cb∧Bytes (List.take 1 (List.drop 0 [f]))∧List.length (List.take 1
 (List.drop 0 [f]))=1∧(1:Nat)≤(1:Nat)∧(1:Nat)≤(65536:Nat)∧aj.length<1099511627776)∧∀(i:S8) (cd:List Int) (ak al:Int),Abs (aj++List.take 1 (List.drop 0 [f])) i cd ak al→∀am:List Int,am=cd→∃an:
 List Int,(kL=kL∧Abs an i am ak al∧an.length<549755813888)∧∀(ao:List Int) (ap:Nat),List.take 32 ao=sha an∧ao.length=ap∧32≤ap→∀I:
 List Int,I=ao→∀ce,ce=IntKind.wrap IntKind.i64 (((ExI.j a:Nat):Int)+1-1)→∀m,m=IntKind.wrap IntKind.i64 (32*ce)→∀aq,aq=IntKind.wrap IntKind.i64 (32*(((ExI.j a:Nat):Int)+1))→∀ar:Int,ar=
 ((Int.toNat n:Nat):Int)→∀B:Int,B=(if ar<aq then ar else aq)→((0≤B∧B≤((Int.toNat n:Nat):Int))∧0≤m∧m≤((Int.toNat B:Nat):Int))∧((0+Min.min (32:Nat) (Int.toNat B-Int.toNat m)≤I.length∧(if
 Int.toNat n=Int.toNat m then (0:Nat)else Int.toNat m*1)+Min.min (32:Nat) (Int.toNat B-Int.toNat m)≤List.length (ExI.res a))∧∀cf,cf=IntKind.wrap IntKind.i64 (((ExI.j a:Nat):Int)+1+1)→∃d:ExI,(1≤ExI.j d∧
 32*((ExI.j d:Nat):Int)<n+32∧Rw (ExI.b d) (bI (firstL msg dst n) (domL dst) (ExI.j d)) (32:Nat) (ExI.bc d)∧((List.length (ExI.res d):Nat):Int)=n∧List.take (32*ExI.j d) (ExI.res d)=List.take (Int.toNat n) (outN
 (firstL msg dst n) (domL dst) (ExI.j d))∧List.length (ExI.x d)=64)∧(((l2=l2∧c2=c2)∧n=n∧j=j∧f=f∧k=k∧(Int.toNat n=Int.toNat n∧Int.toNat n=Int.toNat n)∧ap=ExI.bc d∧cf=((ExI.j d:Nat):Int)+1)∧
 kL=kL∧dst=dst∧g=g∧((S8.a i=S8.a (ExI.H d)∧S8.b i=S8.b (ExI.H d)∧S8.c i=S8.c (ExI.H d)∧S8.d i=S8.d (ExI.H d)∧S8.e i=S8.e (ExI.H d)∧S8.f i=S8.f (ExI.H d)∧S8.g i=S8.g (ExI.H d)∧S8.h i=S8.h (ExI.H d))
 ∧am=ExI.x d∧ak=ExI.nx d∧al=ExI.len d)∧I=ExI.b d∧splice (ExI.res a) (if Int.toNat n=Int.toNat m then (0:Nat)else Int.toNat m*1) (List.take (Min.min (32:Nat) (Int.toNat B-Int.toNat m)) (List.drop 0 I))=ExI.res
 d)∧Int.toNat n+32-32*ExI.j d<Int.toNat n+32-32*ExI.j a))))))))∧(decide (((ExI.j a:Nat):Int)+1≤j)=false→K (.tup [.slice 1569 (.lit 0) (.sym (Int.toNat n)) (.sym (Int.toNat n)),.val .nilIface]) (memL [(2,
 ⟨true,.ints .u32 kL⟩),(17,⟨true,.ints .u8 dst⟩),(529,⟨false,.segs [.cells [.int .u32 (.sym (S8.a (ExI.H a))),.int .u32 (.sym (S8.b (ExI.H a))),.int .u32 (.sym (S8.c (ExI.H a))),.int .u32 (.sym (S8.d (ExI.H a))),.int .u32 (.sym
 (S8.e (ExI.H a))),.int .u32 (.sym (S8.f (ExI.H a))),.int .u32 (.sym (S8.g (ExI.H a))),.int .u32 (.sym (S8.h (ExI.H a)))],.ints .u8 64 (ExI.x a),.cells [.int .i64 (.sym (ExI.nx a)),.int .u64 (.sym (ExI.len a)),.bool (.lit false)]]⟩),
 (1177,⟨false,.ints .u8 g⟩),(1569,⟨false,.ints .u8 (ExI.res a)⟩),(1641,⟨false,.ints .u8 (ExI.b a)⟩)]))))))))))))))):=by kernel_rfl
theorem vc_exn (dst:List Int) (l2 c2:Nat) (n:Int) (K:SV→Mem→Prop):(execF cxEX (uEX 9 [] dst n) Tryz.f47 64 [.val (.slice none 0 0),.slice 9 (.lit 0) (.sym l2) (.sym c2),.int .i64 (.sym n)] (memL [(2,⟨true,.ints .u32 kL⟩),
 (9,⟨true,.ints .u8 dst⟩)]) K)=(∀E:List Int,E=List.replicate 64 (0:Int)→∀x1,x1=IntKind.wrap IntKind.i64 (n+32)→∀x2,x2=IntKind.wrap IntKind.i64 (x1-1)→∀i,i=IntKind.wrap IntKind.i64 (Int.tdiv x2 (32:Int))→
 (decide (i>255)=true→K (.tup [.val (.slice none 0 0),.iface 126 (.ptr 633 (.lit 0))]) (memL [(2,⟨true,.ints .u32 kL⟩),(9,⟨true,.ints .u8 dst⟩),(529,⟨false,.segs [.cells [.int .u32 (.sym 1779033703),.int .u32 (.sym
 3144134277),.int .u32 (.sym 1013904242),.int .u32 (.sym 2773480762),.int .u32 (.sym 1359893119),.int .u32 (.sym 2600822924),.int .u32 (.sym 528734635),.int .u32 (.sym 1541459225)],.ints .u8 64 E,.cells [.int .i64 (.sym 0),.int
 .u64 (.sym 0),.bool (.lit false)]]⟩),(633,⟨false,.cells [.val (.string ⟨⟨[105,110,118,97,108,105,100,32,108,101,110,73,110,66,121,116,101,115]⟩⟩)]⟩)]))∧(decide (i>255)=false→∀I:Int,I=((l2:Nat):Int)→
 (decide (I>255)=true→K (.tup [.val (.slice none 0 0),.iface 126 (.ptr 657 (.lit 0))]) (memL [(2,⟨true,.ints .u32 kL⟩),(9,⟨true,.ints .u8 dst⟩),(529,⟨false,.segs [.cells [.int .u32 (.sym 1779033703),.int .u32 (.sym
 3144134277),.int .u32 (.sym 1013904242),.int .u32 (.sym 2773480762),.int .u32 (.sym 1359893119),.int .u32 (.sym 2600822924),.int .u32 (.sym 528734635),.int .u32 (.sym 1541459225)],.ints .u8 64 E,.cells [.int .i64 (.sym 0),.int
 .u64 (.sym 0),.bool (.lit false)]]⟩),(657,⟨false,.cells [.val (.string ⟨⟨[105,110,118,97,108,105,100,32,100,111,109,97,105,110,32,115,105,122,101,32,40,62,50,53,53,32,98,121,116,101,115,41]⟩⟩)]⟩)]))∧
 (decide (I>255)=false→∀x5:Int,x5=((l2:Nat):Int)→∀e,e=IntKind.wrap IntKind.u8 x5→∀av:List Int,av=E→((0:Int)≤(64:Int)∧(64:Int)≤(140737488355328:Int)∧(64:Int)≤(140737488355328:Int))∧((64
 :Nat)≤(64:Nat)∧∃J:List Int,(kL=kL∧Abs J (S8.mk (1779033703:Int) (3144134277:Int) (1013904242:Int) (2773480762:Int) (1359893119:Int) (2600822924:Int) (528734635:Int) (1541459225:Int)) av (0:Int) (0:Int)∧
 Bytes (List.take 64 (List.drop 0 (List.replicate 64 (0:Int))))∧(64:Nat)=(64:Nat)∧(64:Nat)≤(64:Nat)∧(64:Nat)≤(65536:Nat)∧J.length<1099511627776)∧∀(l:S8) (aw:List Int) (ax ay:Int),Abs (J++List.take
 64 (List.drop 0 (List.replicate 64 (0:Int)))) l aw ax ay→∀az:List Int,az=aw→∃F:List Int,(kL=kL∧Abs F l az ax ay∧F.length%64=0∧
 F.length<1099511627776)∧∀(m:S8) (a0:List Int) (a1 a2:Int),Abs F m a0 a1 a2→∀a3:List Int,a3=a0→∀a4,a4=shrv .i64 n 8→∀B,B=IntKind.wrap IntKind.u8 a4→∀C,C=IntKind.wrap IntKind.u8 n→(3≤List.length [B,
 C,(0:Int)]∧∃L:List Int,(kL=kL∧Abs L m a3 a1 a2∧Bytes (List.take 3 (List.drop 0 [B,C,(0:Int)]))∧List.length (List.take 3 (List.drop 0 [B,C,
 (0:Int)]))=3∧(3:Nat)≤(3:Nat)∧(3:Nat)≤(65536:Nat)∧L.length<1099511627776)∧∀(o:S8) (a5:List Int) (a6 a7:Int),Abs (L++List.take 3 (List.drop 0 [B,C,(0:Int)])) o a5 a6 a7→∀a8:List Int,a8=a5→(0
 + l2*1≤dst.length∧∃M:List Int,(kL=kL∧Abs M o a8 a6 a7∧Bytes (List.take (l2*1) (List.drop 0 dst))∧List.length (List.take (l2*1) (List.drop 0
 dst))=l2∧l2≤c2∧l2≤65536∧M.length<1099511627776)∧∀(p:S8) (a9:List Int) (ba bb:Int),Abs (M++List.take (l2*1) (List.drop 0 dst)) p a9 ba bb→∀bc:List Int,bc=a9→(1≤List.length [e]∧∃N:List Int,(kL=
 kL∧Abs N p bc ba bb∧Bytes (List.take 1 (List.drop 0 [e]))∧List.length (List.take 1 (List.drop 0 [e]))=1∧(1:Nat)≤(1:Nat)∧(1:Nat)≤(65536:
 Nat)∧N.length<1099511627776)∧∀(q:S8) (bd:List Int) (be bf:Int),Abs (N++List.take 1 (List.drop 0 [e])) q bd be bf→∀O:List Int,O=bd→∃Q:List Int,(kL=kL∧Abs Q (S8.mk (S8.a q) (S8.b q) (S8.c q) (S8.d q) (S8.e
 q) (S8.f q) (S8.g q) (S8.h q)) O be bf∧Q.length<549755813888)∧∀(R:List Int) (j:Nat),List.take 32 R=sha Q∧R.length=j∧32≤j→∀f:List Int,f=R→∀bg:List Int,bg=O→(32≤f.length∧∃S:List Int,(kL=kL∧
 Abs S (S8.mk (1779033703:Int) (3144134277:Int) (1013904242:Int) (2773480762:Int) (1359893119:Int) (2600822924:Int) (528734635:Int) (1541459225:Int)) bg (0:Int) (0:Int)∧Bytes (List.take 32 (List.drop 0 f))∧
 List.length (List.take 32 (List.drop 0 f))=32∧32≤j∧(32:Nat)≤(65536:Nat)∧S.length<1099511627776)∧∀(r:S8) (bh:List Int) (bi bj:Int),Abs (S++List.take 32 (List.drop 0 f)) r bh bi bj→∀bk:List Int,bk=bh→
 ((1:Nat)≤(1:Nat)∧∃T:List Int,(kL=kL∧Abs T r bk bi bj∧Bytes (List.take 1 (List.drop 0 [(1:Int)]))∧(1:Nat)=(1:Nat)∧(1:Nat)≤(1:
 Nat)∧(1:Nat)≤(65536:Nat)∧T.length<1099511627776)∧∀(s:S8) (bl:List Int) (bm bn:Int),Abs (T++List.take 1 (List.drop 0 [(1:Int)])) s bl bm bn→∀bo:List Int,bo=bl→(0+l2*1≤dst.length∧∃V:List Int,
 (kL=kL∧Abs V s bo bm bn∧Bytes (List.take (l2*1) (List.drop 0 dst))∧List.length (List.take (l2*1) (List.drop 0 dst))=l2∧l2≤c2∧l2≤65536∧
 V.length<1099511627776)∧∀(t:S8) (bp:List Int) (bq br:Int),Abs (V++List.take (l2*1) (List.drop 0 dst)) t bp bq br→∀bs:List Int,bs=bp→(1≤List.length [e]∧∃X:List Int,(kL=kL∧Abs X (S8.mk (S8.a t) (S8.b t)
 (S8.c t) (S8.d t) (S8.e t) (S8.f t) (S8.g t) (S8.h t)) bs bq br∧Bytes (List.take 1 (List.drop 0 [e]))∧List.length (List.take 1 (List.drop 0 [e]))=1∧(1:Nat)≤(1:Nat)∧(1:Nat)≤(65536:Nat)∧X.length<1099511627776)∧∀
 (g:S8) (bt:List Int) (Y Z:Int),Abs (X++List.take 1 (List.drop 0 [e])) g bt Y Z→∀aa:List Int,aa=bt→∃ab:List Int,(kL=kL∧Abs ab g aa Y Z
 ∧ab.length<549755813888)∧∀(ac:List Int) (ad:Nat),List.take 32 ac=sha ab∧ac.length=ad∧32≤ad→∀G:List Int,G=ac→(0≤n∧n*1≤140737488355328∧n≤140737488355328)∧((0:Int)≤(32:Int)∧32≤((Int.toNat
 n:Nat):Int))∧(32≤G.length∧32≤List.length (List.replicate (Int.toNat n*1) (0:Int)))∧((∃d:ExI,(1≤ExI.j d∧32*((ExI.j d:Nat):Int)<n+32∧Rw (ExI.b d) (bI (firstL [] dst n) (domL dst) (ExI.j d)) (32:Nat)
 (ExI.bc d)∧((List.length (ExI.res d):Nat):Int)=n∧List.take (32*ExI.j d) (ExI.res d)=List.take (Int.toNat n) (outN (firstL [] dst n) (domL dst) (ExI.j d))∧List.length (ExI.x d)=64)∧((l2=l2∧c2=c2)∧n=n∧i=i∧
 e=e∧j=j∧(Int.toNat n=Int.toNat n∧Int.toNat n=Int.toNat n)∧ad=ExI.bc d∧2=((ExI.j d:Nat):Int)+1)∧kL=kL∧dst=dst∧f=f∧((S8.a g=S8.a (ExI.H d)∧S8.b g=S8.b (ExI.H d)∧S8.c g=S8.c (ExI.H d)∧S8.d
 g=S8.d (ExI.H d)∧S8.e g=S8.e (ExI.H d)∧S8.f g=S8.f (ExI.H d)∧S8.g g=S8.g (ExI.H d)∧S8.h g=S8.h (ExI.H d))∧aa=ExI.x d∧Y=ExI.nx d∧Z=ExI.len d)∧G=ExI.b d∧splice (List.replicate (Int.toNat n*1) (0:Int))
 (0:Nat) (List.take 32 (List.drop 0 G))=ExI.res d)∧∀a:ExI,1≤ExI.j a∧32*((ExI.j a:Nat):Int)<n+32∧Rw (ExI.b a) (bI (firstL [] dst n) (domL dst) (ExI.j a)) (32:Nat) (ExI.bc a)∧((List.length (ExI.res a):Nat):
 Int)=n∧List.take (32*ExI.j a) (ExI.res a)=List.take (Int.toNat n) (outN (firstL [] dst n) (domL dst) (ExI.j a))∧List.length (ExI.x a)=64→(decide (((ExI.j a:Nat):Int)+1≤i)=true→∀A:List Int,A=ExI.x a→((0:
 Int)≤(32:Int)∧(32:Int)≤(140737488355328:Int)∧(32:Int)≤(140737488355328:Int))∧((∃y:Prod Nat (List Int),(List.length (Prod.snd y)=32∧List.take (Prod.fst y) (Prod.snd y)=List.take (Prod.fst y) (xorL f (ExI.b
 a))∧Prod.fst y≤32)∧((l2=l2∧c2=c2)∧n=n∧i=i∧e=e∧j=j∧ExI.bc a=ExI.bc a∧(Int.toNat n=Int.toNat n∧Int.toNat n=Int.toNat n)∧((ExI.j a:Nat):Int)+1=((ExI.j a:Nat):Int)+1∧0=((Prod.fst y:
 Nat):Int))∧kL=kL∧dst=dst∧(((1779033703:Int)=(1779033703:Int)∧(3144134277:Int)=(3144134277:Int)∧(1013904242:Int)=(1013904242:Int)∧(2773480762:Int)=(2773480762:Int)∧(1359893119:Int)=(1359893119
 :Int)∧(2600822924:Int)=(2600822924:Int)∧(528734635:Int)=(528734635:Int)∧(1541459225:Int)=(1541459225:Int))∧A=A∧(0:Int)=(0:Int)∧(0:Int)=(0:Int))∧f=f∧ExI.res a=ExI.res a∧ExI.b a=ExI.b
 a∧List.replicate 32 (0:Int)=Prod.snd y)∧∀b:Prod Nat (List Int),List.length (Prod.snd b)=32∧List.take (Prod.fst b) (Prod.snd b)=List.take (Prod.fst b) (xorL f (ExI.b a))∧Prod.fst b≤32→(decide (((Prod.fst b:Nat):
 Int)<32)=true→(0≤((Prod.fst b:Nat):Int)∧((Prod.fst b:Nat):Int)<32)∧(Int.toNat ((Prod.fst b:Nat):Int)*1+1≤f.length∧∀bu:Int,bu=List.getD f (Int.toNat ((Prod.fst b:Nat):Int)*1) (0:Int)→(0≤
 ((Prod.fst b:Nat):Int)∧((Prod.fst b:Nat):Int)<32)∧(Int.toNat ((Prod.fst b:Nat):Int)*1+1≤List.length (ExI.b a)∧∀bv:Int,bv=List.getD (ExI.b a) (Int.toNat ((Prod.fst b:Nat):Int)*1) (0:Int)→∀bw,bw=
 bxor .u8 bu bv→(0≤((Prod.fst b:Nat):Int)∧((Prod.fst b:Nat):Int)<32)∧(Int.toNat ((Prod.fst b:Nat):Int)*1<List.length (Prod.snd b)∧∀bx,bx=IntKind.wrap IntKind.i64 (((Prod.fst b:Nat):Int)+1)→∃x:Prod
 Nat (List Int),(List.length (Prod.snd x)=32∧List.take (Prod.fst x) (Prod.snd x)=List.take (Prod.fst x) (xorL f (ExI.b a))∧Prod.fst x≤32)∧(((l2=l2∧c2=c2)∧n=n∧i=i∧e=e∧j=j∧ExI.bc a=ExI.bc a∧(Int.toNat
 n=Int.toNat n∧Int.toNat n=Int.toNat n)∧((ExI.j a:Nat):Int)+1=((ExI.j a:Nat):Int)+1∧bx=((Prod.fst x:Nat):Int))∧kL=kL∧dst=dst∧(((1779033703:Int)=(1779033703:Int)∧(3144134277:Int)=
 (3144134277:Int)∧(1013904242:Int)=(1013904242:Int)∧(2773480762:Int)=(2773480762:Int)∧(1359893119:Int)=(1359893119:Int)∧(2600822924:Int)=(2600822924:Int)∧(528734635:Int)=(528734635:Int)∧
 (1541459225:Int)=(1541459225:Int))∧A=A∧(0:Int)=(0:Int)∧(0:Int)=(0:Int))∧f=f∧ExI.res a=ExI.res a∧ExI.b a=ExI.b a∧List.set (Prod.snd b) (Int.toNat ((Prod.fst b:Nat):Int)*1) bw=Prod.snd x)∧32
 - Prod.fst x<32-Prod.fst b))))∧(decide (((Prod.fst b:Nat):Int)<32)=false→(32≤List.length (Prod.snd b)∧∃ae:List Int,(kL=kL∧Abs ae (S8.mk (1779033703:Int) (3144134277:Int) (1013904242:Int) (2773480762:Int)
 (1359893119:Int) (2600822924:Int) (528734635:Int) (1541459225:Int)) A (0:Int) (0:Int)∧Bytes (List.take 32 (List.drop 0 (Prod.snd b)))∧List.length (List.take 32 (List.drop 0 (Prod.snd b)))=32∧(32:Nat)≤(32:Nat)∧
 (32:Nat)≤(65536:Nat)∧ae.length<1099511627776)∧∀(u:S8) (bz:List Int) (b0 b1:Int),Abs (ae++List.take 32 (List.drop 0 (Prod.snd b))) u bz b0 b1→∀b2:List Int,b2=bz→∀D,D=IntKind.wrap IntKind.u8 (((ExI.j a:
 Nat):Int)+1)→(1≤List.length [D]∧∃af:List Int,(kL=kL∧Abs af u b2 b0 b1∧Bytes (List.take 1 (List.drop 0 [D]))∧List.length (List.take 1
 (List.drop 0 [D]))=1∧(1:Nat)≤(1:Nat)∧(1:Nat)≤(65536:Nat)∧af.length<1099511627776)∧∀(v:S8) (b3:List Int) (b4 b5:Int),Abs (af++List.take 1 (List.drop 0 [D])) v b3 b4 b5→∀b6:List Int,b6=b3→(0+l2 *
 1≤dst.length∧∃ag:List Int,(kL=kL∧Abs ag v b6 b4 b5∧Bytes (List.take (l2*1) (List.drop 0 dst))∧List.length (List.take (l2*1) (List.drop 0
 dst))=l2∧l2≤c2∧l2≤65536∧ag.length<1099511627776)∧∀(w:S8) (b7:List Int) (b8 b9:Int),Abs (ag++List.take (l2*1) (List.drop 0 dst)) w b7 b8 b9→∀ca:List Int,ca=b7→(1≤List.length [e]∧∃ah:List Int,(kL
 =kL∧Abs ah w ca b8 b9∧Bytes (List.take 1 (List.drop 0 [e]))∧List.length (List.take 1 (List.drop 0 [e]))=1∧(1:Nat)≤(1:Nat)∧(1:Nat)≤(65536:
 Nat)∧ah.length<1099511627776)∧∀(h:S8) (cb:List Int) (ai aj:Int),Abs (ah++List.take 1 (List.drop 0 [e])) h cb ai aj→∀ak:List Int,ak=cb→∃al:List Int,(kL=kL∧Abs al (S8.mk (S8.a h) (S8.b h) (S8.c h) (S8.d h)
 (S8.e h) (S8.f h) (S8.g h) (S8.h h)) ak ai aj∧al.length<549755813888)∧∀(am:List Int) (an:Nat),List.take 32 am=sha al∧am.length=an∧32≤an→∀H:List Int,H=am→∀cc,cc=IntKind.wrap IntKind.i64 (((ExI.j a:Nat)
 :Int)+1-1)→∀k,k=IntKind.wrap IntKind.i64 (32*cc)→∀ao,ao=IntKind.wrap IntKind.i64 (32*(((ExI.j a:Nat):Int)+1))→∀ap:Int,ap=((Int.toNat n:Nat):Int)→∀z:Int,z=(if ap<ao then ap else ao)→((0≤z
 ∧z≤((Int.toNat n:Nat):Int))∧0≤k∧k≤((Int.toNat z:Nat):Int))∧((0+Min.min (32:Nat) (Int.toNat z-Int.toNat k)≤H.length∧(if Int.toNat n=Int.toNat k then (0:Nat)else Int.toNat k*1)+Min.min (32:Nat)
 (Int.toNat z-Int.toNat k)≤List.length (ExI.res a))∧∀cd,cd=IntKind.wrap IntKind.i64 (((ExI.j a:Nat):Int)+1+1)→∃c:ExI,(1≤ExI.j c∧32*((ExI.j c:Nat):Int)<n+32∧Rw (ExI.b c) (bI (firstL [] dst n) (domL
 dst) (ExI.j c)) (32:Nat) (ExI.bc c)∧((List.length (ExI.res c):Nat):Int)=n∧List.take (32*ExI.j c) (ExI.res c)=List.take (Int.toNat n) (outN (firstL [] dst n) (domL dst) (ExI.j c))∧List.length (ExI.x c)=64)∧(((l2=l2∧
 c2=c2)∧n=n∧i=i∧e=e∧j=j∧(Int.toNat n=Int.toNat n∧Int.toNat n=Int.toNat n)∧an=ExI.bc c∧cd=((ExI.j c:Nat):Int)+1)∧kL=kL∧dst=dst∧f=f∧((S8.a h=S8.a (ExI.H c)∧S8.b h=S8.b (ExI.H c)∧
 S8.c h=S8.c (ExI.H c)∧S8.d h=S8.d (ExI.H c)∧S8.e h=S8.e (ExI.H c)∧S8.f h=S8.f (ExI.H c)∧S8.g h=S8.g (ExI.H c)∧S8.h h=S8.h (ExI.H c))∧ak=ExI.x c∧ai=ExI.nx c∧aj=ExI.len c)∧H=ExI.b c∧splice (ExI.res a)
 (if Int.toNat n=Int.toNat k then (0:Nat)else Int.toNat k*1) (List.take (Min.min (32:Nat) (Int.toNat z-Int.toNat k)) (List.drop 0 H))=ExI.res c)∧Int.toNat n+32-32*ExI.j c<Int.toNat n+32-32*ExI.j a))))))))∧
 (decide (((ExI.j a:Nat):Int)+1≤i)=false→K (.tup [.slice 1569 (.lit 0) (.sym (Int.toNat n)) (.sym (Int.toNat n)),.val .nilIface]) (memL [(2,⟨true,.ints .u32 kL⟩),(9,⟨true,.ints .u8 dst⟩),(529,⟨false,.segs [.cells [.int
 .u32 (.sym (S8.a (ExI.H a))),.int .u32 (.sym (S8.b (ExI.H a))),.int .u32 (.sym (S8.c (ExI.H a))),.int .u32 (.sym (S8.d (ExI.H a))),.int .u32 (.sym (S8.e (ExI.H a))),.int .u32 (.sym (S8.f (ExI.H a))),.int .u32 (.sym (S8.g (ExI.H a))),
 .int .u32 (.sym (S8.h (ExI.H a)))],.ints .u8 64 (ExI.x a),.cells [.int .i64 (.sym (ExI.nx a)),.int .u64 (.sym (ExI.len a)),.bool (.lit false)]]⟩),(1177,⟨false,.ints .u8 f⟩),(1569,⟨false,.ints .u8 (ExI.res a)⟩),(1641,⟨false,
 .ints .u8 (ExI.b a)⟩)])))))))))))))):=by kernel_rfl
theorem vc_sb (H:S8) (xs:List Int) (l c:Nat) (K:SV→Mem→Prop):(execF cxSB (uSB H xs) Tryz.f63 64 [.agg [i32 H.a,i32 H.b,i32 H.c,i32 H.d,i32 H.e,i32 H.f,i32 H.g,i32 H.h],.slice 1 (.lit 0) (.sym l) (.sym c)] (memL [(1,
 ⟨true,.ints .u8 xs⟩)]) K)=((∃r:LI.ι (liSB0 xs),(Prod.fst r≤16∧(List.length (Prod.snd r)=64∧∀C:Nat,C<Prod.fst r→List.getD (Prod.snd r) C (0:Int)=W xs C))∧((S8.a H=S8.a H∧S8.b H=S8.b H∧S8.c H=S8.c H∧
 S8.d H=S8.d H∧S8.e H=S8.e H∧S8.f H=S8.f H∧S8.g H=S8.g H∧S8.h H=S8.h H)∧(l=l∧c=c)∧0=((Prod.fst r:Nat):Int))∧xs=xs∧(S8.a H=S8.a H∧S8.b H=S8.b H∧S8.c H=S8.c H∧S8.d H=S8.d H∧S8.e H=S8.e
 H∧S8.f H=S8.f H∧S8.g H=S8.g H∧S8.h H=S8.h H)∧[(0:Int),(0:Int),(0:Int),(0:Int),(0:Int),(0:Int),(0:Int),(0:Int),(0:Int),(0:Int),(0:Int),(0:Int),(0:Int),(0:Int),(0:Int),(0:Int),(0
 :Int),(0:Int),(0:Int),(0:Int),(0:Int),(0:Int),(0:Int),(0:Int),(0:Int),(0:Int),(0:Int),(0:Int),(0:Int),(0:Int),(0:Int),(0:Int),(0:Int),(0:Int),(0:Int),(0:Int),(0:Int),(0:Int),
 (0:Int),(0:Int),(0:Int),(0:Int),(0:Int),(0:Int),(0:Int),(0:Int),(0:Int),(0:Int),(0:Int),(0:Int),(0:Int),(0:Int),(0:Int),(0:Int),(0:Int),(0:Int),(0:Int),(0:Int),(0:Int),(0:
 Int),(0:Int),(0:Int),(0:Int),(0:Int)]=Prod.snd r)∧∀k:LI.ι (liSB0 xs),Prod.fst k≤16∧(List.length (Prod.snd k)=64∧∀D:Nat,D<Prod.fst k→List.getD (Prod.snd k) D (0:Int)=W xs D)→(decide (((Prod.fst k:
 Nat):Int)<16)=true→∀s,s=IntKind.wrap IntKind.i64 (4*((Prod.fst k:Nat):Int))→(0≤s∧s<((l:Nat):Int))∧(Int.toNat s*1+1≤xs.length∧∀x5:Int,x5=List.getD xs (Int.toNat s*1) (0:Int)→∀x6,x6=
 IntKind.wrap IntKind.u32 x5→∀x7,x7=shlv .u32 x6 24→∀x8,x8=IntKind.wrap IntKind.i64 (4*((Prod.fst k:Nat):Int))→∀t,t=IntKind.wrap IntKind.i64 (x8+1)→(0≤t∧t<((l:Nat):Int))∧(Int.toNat t*1+1≤
 xs.length∧∀ai:Int,ai=List.getD xs (Int.toNat t*1) (0:Int)→∀aj,aj=IntKind.wrap IntKind.u32 ai→∀ak,ak=shlv .u32 aj 16→∀al,al=IntKind.wrap IntKind.u32 (x7+ak)→∀am,am=IntKind.wrap IntKind.i64 (4 *
 ((Prod.fst k:Nat):Int))→∀u,u=IntKind.wrap IntKind.i64 (am+2)→(0≤u∧u<((l:Nat):Int))∧(Int.toNat u*1+1≤xs.length∧∀an:Int,an=List.getD xs (Int.toNat u*1) (0:Int)→∀ao,ao=IntKind.wrap IntKind.u32
 an→∀ap,ap=shlv .u32 ao 8→∀aq,aq=IntKind.wrap IntKind.u32 (al+ap)→∀ar,ar=IntKind.wrap IntKind.i64 (4*((Prod.fst k:Nat):Int))→∀v,v=IntKind.wrap IntKind.i64 (ar+3)→(0≤v∧v<((l:Nat):Int))∧
 (Int.toNat v*1+1≤xs.length∧∀au:Int,au=List.getD xs (Int.toNat v*1) (0:Int)→∀av,av=IntKind.wrap IntKind.u32 au→∀aw,aw=IntKind.wrap IntKind.u32 (aq+av)→(0≤((Prod.fst k:Nat):Int)∧((Prod.fst k:Nat):
 Int)<64)∧(Int.toNat ((Prod.fst k:Nat):Int)*1<List.length (Prod.snd k)∧∀ax,ax=IntKind.wrap IntKind.i64 (((Prod.fst k:Nat):Int)+1)→∃p:LI.ι (liSB0 xs),(Prod.fst p≤16∧(List.length (Prod.snd p)=64∧∀E:
 Nat,E<Prod.fst p→List.getD (Prod.snd p) E (0:Int)=W xs E))∧(((S8.a H=S8.a H∧S8.b H=S8.b H∧S8.c H=S8.c H∧S8.d H=S8.d H∧S8.e H=S8.e H∧S8.f H=S8.f H∧S8.g H=S8.g H∧S8.h H=S8.h H)∧(l=l∧c=c)∧ax
 =((Prod.fst p:Nat):Int))∧xs=xs∧(S8.a H=S8.a H∧S8.b H=S8.b H∧S8.c H=S8.c H∧S8.d H=S8.d H∧S8.e H=S8.e H∧S8.f H=S8.f H∧S8.g H=S8.g H∧S8.h H=S8.h H)∧List.set (Prod.snd k) (Int.toNat ((Prod.fst k:
 Nat):Int)*1) aw=Prod.snd p)∧16-Prod.fst p<16-Prod.fst k))))))∧(decide (((Prod.fst k:Nat):Int)<16)=false→((∃q:LI.ι (liSB2 xs),(16≤Prod.fst q∧Prod.fst q≤64∧(List.length (Prod.snd q)=64∧∀F:Nat,F <
 Prod.fst q→List.getD (Prod.snd q) F (0:Int)=W xs F))∧((S8.a H=S8.a H∧S8.b H=S8.b H∧S8.c H=S8.c H∧S8.d H=S8.d H∧S8.e H=S8.e H∧S8.f H=S8.f H∧S8.g H=S8.g H∧S8.h H=S8.h H)∧(l=l∧c=c)∧16=
 ((Prod.fst q:Nat):Int))∧xs=xs∧(S8.a H=S8.a H∧S8.b H=S8.b H∧S8.c H=S8.c H∧S8.d H=S8.d H∧S8.e H=S8.e H∧S8.f H=S8.f H∧S8.g H=S8.g H∧S8.h H=S8.h H)∧Prod.snd k=Prod.snd q)∧∀j:LI.ι (liSB2 xs),16
 ≤Prod.fst j∧Prod.fst j≤64∧(List.length (Prod.snd j)=64∧∀G:Nat,G<Prod.fst j→List.getD (Prod.snd j) G (0:Int)=W xs G)→(decide (((Prod.fst j:Nat):Int)<64)=true→∀w,w=IntKind.wrap IntKind.i64 (((Prod.fst j
 :Nat):Int)-15)→(0≤w∧w<64)∧(Int.toNat w*1+1≤List.length (Prod.snd j)∧∀A:Int,A=List.getD (Prod.snd j) (Int.toNat w*1) (0:Int)→∀x,x=IntKind.wrap IntKind.i64 (((Prod.fst j:Nat):Int)-2)→(0≤x∧x
 < 64)∧(Int.toNat x*1+1≤List.length (Prod.snd j)∧∀B:Int,B=List.getD (Prod.snd j) (Int.toNat x*1) (0:Int)→∀y,y=IntKind.wrap IntKind.i64 (((Prod.fst j:Nat):Int)-16)→(0≤y∧y<64)∧(Int.toNat y*1+1≤
 List.length (Prod.snd j)∧∀ay:Int,ay=List.getD (Prod.snd j) (Int.toNat y*1) (0:Int)→∀z,z=IntKind.wrap IntKind.i64 (((Prod.fst j:Nat):Int)-7)→(0≤z∧z<64)∧(Int.toNat z*1+1≤List.length (Prod.snd j)∧∀az
 :Int,az=List.getD (Prod.snd j) (Int.toNat z*1) (0:Int)→∀a0,a0=IntKind.wrap IntKind.u32 (ay+az)→(((0:Int)≤(7:Int)∧(7:Int)≤(32:Int))∧∀a1:Int,a1=rot A (7:Nat)→(((0:Int)≤(18:Int)∧(18:Int)≤
 (32:Int))∧∀a2:Int,a2=rot A (18:Nat)→∀a3,a3=bxor .u32 a1 a2→∀a4,a4=shrv .u32 A 3→∀a5,a5=bxor .u32 a3 a4→∀a6,a6=IntKind.wrap IntKind.u32 (a0+a5)→(((0:Int)≤(17:Int)∧(17:Int)≤(32:Int))∧∀
 a7:Int,a7=rot B (17:Nat)→(((0:Int)≤(19:Int)∧(19:Int)≤(32:Int))∧∀a8:Int,a8=rot B (19:Nat)→∀a9,a9=bxor .u32 a7 a8→∀ba,ba=shrv .u32 B 10→∀bb,bb=bxor .u32 a9 ba→∀bc,bc=IntKind.wrap
 IntKind.u32 (a6+bb)→(0≤((Prod.fst j:Nat):Int)∧((Prod.fst j:Nat):Int)<64)∧(Int.toNat ((Prod.fst j:Nat):Int)*1<List.length (Prod.snd j)∧∀bd,bd=IntKind.wrap IntKind.i64 (((Prod.fst j:Nat):Int)+1)→∃o
 :LI.ι (liSB2 xs),(16≤Prod.fst o∧Prod.fst o≤64∧(List.length (Prod.snd o)=64∧∀I:Nat,I<Prod.fst o→List.getD (Prod.snd o) I (0:Int)=W xs I))∧(((S8.a H=S8.a H∧S8.b H=S8.b H∧S8.c H=S8.c H∧S8.d H=S8.d H∧
 S8.e H=S8.e H∧S8.f H=S8.f H∧S8.g H=S8.g H∧S8.h H=S8.h H)∧(l=l∧c=c)∧bd=((Prod.fst o:Nat):Int))∧xs=xs∧(S8.a H=S8.a H∧S8.b H=S8.b H∧S8.c H=S8.c H∧S8.d H=S8.d H∧S8.e H=S8.e H∧S8.f H=
 S8.f H∧S8.g H=S8.g H∧S8.h H=S8.h H)∧List.set (Prod.snd j) (Int.toNat ((Prod.fst j:Nat):Int)*1) bc=Prod.snd o)∧64-Prod.fst o<64-Prod.fst j))))))))))∧(decide (((Prod.fst j:Nat):Int)<64)=false→∀be,be=
 S8.a H→∀bf,bf=S8.b H→∀bg,bg=S8.c H→∀bh,bh=S8.d H→∀bi,bi=S8.e H→∀bj,bj=S8.f H→∀bk,bk=S8.g H→∀bl,bl=S8.h H→((∃n:Nat,n≤64∧((S8.a H=S8.a H∧S8.b H=S8.b H∧S8.c H=S8.c H∧S8.d H=
 S8.d H∧S8.e H=S8.e H∧S8.f H=S8.f H∧S8.g H=S8.g H∧S8.h H=S8.h H)∧(l=l∧c=c)∧0=((n:Nat):Int))∧xs=xs∧(S8.a H=S8.a H∧S8.b H=S8.b H∧S8.c H=S8.c H∧S8.d H=S8.d H∧S8.e H=S8.e H∧S8.f H=S8.f
 H∧S8.g H=S8.g H∧S8.h H=S8.h H)∧Prod.snd j=Prod.snd j∧[(1116352408:Int),(1899447441:Int),(3049323471:Int),(3921009573:Int),(961987163:Int),(1508970993:Int),(2453635748:Int),(2870763221:Int),(3624381080
 :Int),(310598401:Int),(607225278:Int),(1426881987:Int),(1925078388:Int),(2162078206:Int),(2614888103:Int),(3248222580:Int),(3835390401:Int),(4022224774:Int),(264347078:Int),(604807628:Int),(770255983:
 Int),(1249150122:Int),(1555081692:Int),(1996064986:Int),(2554220882:Int),(2821834349:Int),(2952996808:Int),(3210313671:Int),(3336571891:Int),(3584528711:Int),(113926993:Int),(338241895:Int),(666307205:
 Int),(773529912:Int),(1294757372:Int),(1396182291:Int),(1695183700:Int),(1986661051:Int),(2177026350:Int),(2456956037:Int),(2730485921:Int),(2820302411:Int),(3259730800:Int),(3345764771:Int),(3516065817:
 Int),(3600352804:Int),(4094571909:Int),(275423344:Int),(430227734:Int),(506948616:Int),(659060556:Int),(883997877:Int),(958139571:Int),(1322822218:Int),(1537002063:Int),(1747873779:Int),(1955562222:Int),
 (2024104815:Int),(2227730452:Int),(2361852424:Int),(2428436474:Int),(2756734187:Int),(3204031479:Int),(3329325298:Int)]=kL∧be=S8.a (rounds H xs n)∧bf=S8.b (rounds H xs n)∧bg=S8.c (rounds H xs n)∧bh=
 S8.d (rounds H xs n)∧bi=S8.e (rounds H xs n)∧bj=S8.f (rounds H xs n)∧bk=S8.g (rounds H xs n)∧bl=S8.h (rounds H xs n))∧∀i:Nat,i≤64→(decide (((i:Nat):Int)<64)=true→(((0:Int)≤(6:Int)∧(6:Int)≤(32
 :Int))∧∀bm:Int,bm=rot (S8.e (rounds H xs i)) (6:Nat)→(((0:Int)≤(11:Int)∧(11:Int)≤(32:Int))∧∀bn:Int,bn=rot (S8.e (rounds H xs i)) (11:Nat)→∀bo,bo=bxor .u32 bm bn→(((0:Int)≤(25:Int)∧(25:
 Int)≤(32:Int))∧∀bp:Int,bp=rot (S8.e (rounds H xs i)) (25:Nat)→∀bq,bq=bxor .u32 bo bp→∀br,br=IntKind.wrap IntKind.u32 (S8.h (rounds H xs i)+bq)→∀bs,bs=band .u32 (S8.e (rounds H xs i)) (S8.f (rounds H xs i))
 →∀bt,bt=bxor .u32 (4294967295:Int) (S8.e (rounds H xs i))→∀bu,bu=band .u32 bt (S8.g (rounds H xs i))→∀bv,bv=bxor .u32 bs bu→∀bw,bw=IntKind.wrap IntKind.u32 (br+bv)→(0≤((i:Nat):Int)∧((i:Nat):Int) <
 64)∧(Int.toNat ((i:Nat):Int)*1+1≤64∧∀bx:Int,bx=List.getD kL (Int.toNat ((i:Nat):Int)*1) (0:Int)→∀bz,bz=IntKind.wrap IntKind.u32 (bw+bx)→(0≤((i:Nat):Int)∧((i:Nat):Int)<64)∧(Int.toNat ((i
 :Nat):Int)*1+1≤List.length (Prod.snd j)∧∀b0:Int,b0=List.getD (Prod.snd j) (Int.toNat ((i:Nat):Int)*1) (0:Int)→∀J,J=IntKind.wrap IntKind.u32 (bz+b0)→(((0:Int)≤(2:Int)∧(2:Int)≤(32:Int))∧∀b1
 :Int,b1=rot (S8.a (rounds H xs i)) (2:Nat)→(((0:Int)≤(13:Int)∧(13:Int)≤(32:Int))∧∀b2:Int,b2=rot (S8.a (rounds H xs i)) (13:Nat)→∀b3,b3=bxor .u32 b1 b2→(((0:Int)≤(22:Int)∧(22:Int)≤(32:
 Int))∧∀b4:Int,b4=rot (S8.a (rounds H xs i)) (22:Nat)→∀b5,b5=bxor .u32 b3 b4→∀b6,b6=band .u32 (S8.a (rounds H xs i)) (S8.b (rounds H xs i))→∀b7,b7=band .u32 (S8.a (rounds H xs i)) (S8.c (rounds H xs i))→∀b8,
 b8=bxor .u32 b6 b7→∀b9,b9=band .u32 (S8.b (rounds H xs i)) (S8.c (rounds H xs i))→∀ca,ca=bxor .u32 b8 b9→∀cb,cb=IntKind.wrap IntKind.u32 (b5+ca)→∀cc,cc=IntKind.wrap IntKind.u32 (J+cb)→∀cd,cd=IntKind.wrap
 IntKind.u32 (S8.d (rounds H xs i)+J)→∀ce,ce=IntKind.wrap IntKind.i64 (((i:Nat):Int)+1)→∃m:Nat,m≤64∧(((S8.a H=S8.a H∧S8.b H=S8.b H∧S8.c H=S8.c H∧S8.d H=S8.d H∧S8.e H=S8.e H∧S8.f H=S8.f H∧S8.g
 H=S8.g H∧S8.h H=S8.h H)∧(l=l∧c=c)∧ce=((m:Nat):Int))∧xs=xs∧(S8.a H=S8.a H∧S8.b H=S8.b H∧S8.c H=S8.c H∧S8.d H=S8.d H∧S8.e H=S8.e H∧S8.f H=S8.f H∧S8.g H=S8.g H∧S8.h H=S8.h H)∧
 Prod.snd j=Prod.snd j∧kL=kL∧cc=S8.a (rounds H xs m)∧S8.a (rounds H xs i)=S8.b (rounds H xs m)∧S8.b (rounds H xs i)=S8.c (rounds H xs m)∧S8.c (rounds H xs i)=S8.d (rounds H xs m)∧cd=S8.e (rounds H xs m)∧S8.e
 (rounds H xs i)=S8.f (rounds H xs m)∧S8.f (rounds H xs i)=S8.g (rounds H xs m)∧S8.g (rounds H xs i)=S8.h (rounds H xs m))∧64-m<64-i)))))))))∧(decide (((i:Nat):Int)<64)=false→∀L,L=IntKind.wrap IntKind.u32
 (S8.a H+S8.a (rounds H xs i))→∀M,M=IntKind.wrap IntKind.u32 (S8.b H+S8.b (rounds H xs i))→∀N,N=IntKind.wrap IntKind.u32 (S8.c H+S8.c (rounds H xs i))→∀O,O=IntKind.wrap IntKind.u32 (S8.d H+S8.d (rounds H xs i))→∀
 Q,Q=IntKind.wrap IntKind.u32 (S8.e H+S8.e (rounds H xs i))→∀R,R=IntKind.wrap IntKind.u32 (S8.f H+S8.f (rounds H xs i))→∀S,S=IntKind.wrap IntKind.u32 (S8.g H+S8.g (rounds H xs i))→∀T,T=IntKind.wrap IntKind.u32
 (S8.h H+S8.h (rounds H xs i))→∀V,V=L→∀X,X=M→∀Y,Y=N→∀Z,Z=O→∀aa,aa=Q→∀ab,ab=R→∀ac,ac=S→∀ad,ad=T→K (.agg [.int .u32 (.sym V),.int .u32 (.sym X),.int .u32 (.sym Y),.int .u32 (.sym Z),.int
 .u32 (.sym aa),.int .u32 (.sym ab),.int .u32 (.sym ac),.int .u32 (.sym ad)]) (memL [(1,⟨true,.ints .u8 xs⟩),(513,⟨false,.cells [.int .u32 (.sym L),.int .u32 (.sym M),.int .u32 (.sym N),.int .u32 (.sym O),.int .u32 (.sym Q),
 .int .u32 (.sym R),.int .u32 (.sym S),.int .u32 (.sym T)]⟩),(521,⟨false,.cells [.int .u32 (.sym V),.int .u32 (.sym X),.int .u32 (.sym Y),.int .u32 (.sym Z),.int .u32 (.sym aa),.int .u32 (.sym ab),.int .u32 (.sym ac),.int .u32
 (.sym ad)]⟩),(537,⟨false,.ints .u32 (Prod.snd j)⟩),(617,⟨false,.ints .u32 kL⟩),(625,⟨false,.cells [.int .u32 (.sym (S8.a (rounds H xs i))),.int .u32 (.sym (S8.b (rounds H xs i))),.int .u32 (.sym (S8.c (rounds H xs i))),.int
 .u32 (.sym (S8.d (rounds H xs i))),.int .u32 (.sym (S8.e (rounds H xs i))),.int .u32 (.sym (S8.f (rounds H xs i))),.int .u32 (.sym (S8.g (rounds H xs i))),.int .u32 (.sym (S8.h (rounds H xs i)))]⟩)]))))))):=by kernel_rfl
end Go.Sx
namespace Go.Sx
open Go Go.Proofs
set_option maxRecDepth 100000
set_option maxHeartbeats 4000000
theorem sb_walk (H:S8) (xs:List Int) (l c:Nat) (K:SV→Mem→Prop) (hl:64≤l) (hx:64≤xs.length) (hb:Bytes xs) (hup:KUp K)
  (hK:∀H',H'=comp H xs→K (.agg [i32 H'.a,i32 H'.b,i32 H'.c,i32 H'.d,i32 H'.e,i32 H'.f,i32 H'.g,i32 H'.h]) (memL [(1,⟨true,.ints .u8 xs⟩)])):
  execF cxSB (uSB H xs) Tryz.f63 64 [.agg [i32 H.a,i32 H.b,i32 H.c,i32 H.d,i32 H.e,i32 H.f,i32 H.g,i32 H.h],.slice 1 (.lit 0) (.sym l) (.sym c)] (memL [(1,⟨true,.ints .u8 xs⟩)]) K:=by
 rw[vc_sb]
 have tail:∀(w:List Int) (i:Nat) v,w.length=64→(∀j,j<i→w.getD j 0=W xs j)→v=W xs i→i<64→(∀j,j<i+1→(w.set i v).getD j 0=W xs j):=by
  intro w i v hw h hv hi j hj
  by_cases hji:j=i
  ·rw[hji,getD_set_self (by omega),hv]
  ·rw[getD_set_ne (by omega)];exact h j (by omega)
 have hby:=bytes_at hb
 refine ⟨⟨(0,List.replicate 64 0),⟨by simp,by simp,by simp⟩,?_⟩,?_⟩
 ·repeat' apply And.intro
  all_goals first | trivial | rfl | simp
 rintro ⟨i,w⟩ ⟨h1,h2,h3⟩
 simp only at h1 h2 h3
 simp only[Int.toNat_natCast,Nat.mul_one]
 refine ⟨fun hi=> ?_,fun hi=> ?_⟩
 ·simp only[decide_eq_true_eq]at hi
  rintro x4 hx4
  rw[wrap64 (by omega) (by omega)]at hx4
  refine ⟨by omega,by omega,?_⟩
  rintro x5 rfl x6 rfl x7 rfl x8 rfl x9 hx9
  rw[wrap64 (x:=4*(i:Int)) (by omega) (by omega),wrap64 (by omega) (by omega)]at hx9
  refine ⟨by omega,by omega,?_⟩
  rintro x10 rfl x11 rfl x12 rfl x13 rfl x14 rfl x15 hx15
  rw[wrap64 (x:=4*(i:Int)) (by omega) (by omega),wrap64 (by omega) (by omega)]at hx15
  refine ⟨by omega,by omega,?_⟩
  rintro x16 rfl x17 rfl x18 rfl x19 rfl x20 rfl x21 hx21
  rw[wrap64 (x:=4*(i:Int)) (by omega) (by omega),wrap64 (by omega) (by omega)]at hx21
  refine ⟨by omega,by omega,?_⟩
  rintro x22 rfl x23 rfl x24 hx24
  have hv:x24=W xs i:=by
   have e0:xs.getD x4.toNat 0=at0 xs (4*i):=by unfold at0;congr 1;omega
   have e1:xs.getD x9.toNat 0=at0 xs (4*i+1):=by unfold at0;congr 1;omega
   have e2:xs.getD x15.toNat 0=at0 xs (4*i+2):=by unfold at0;congr 1;omega
   have e3:xs.getD x21.toNat 0=at0 xs (4*i+3):=by unfold at0;congr 1;omega
   rw[hx24,e0,e1,e2,e3]
   have w:=fun n=>w32_byte (hby n)
   unfold w32 at w
   rw[w,w,w,w,W_lo _ (by omega)]
   exact be_add (hby _) (hby _) (hby _) (hby _)
  clear hx24
  refine ⟨by omega,by omega,?_⟩
  rintro x25 hx25
  rw[wrap64 (by omega) (by omega)]at hx25
  refine ⟨(i+1,w.set i x24),⟨by simp only;omega,by simp only[List.length_set];exact h2,tail w i x24 h2 h3 hv (by omega)⟩,?_,by simp only;omega⟩
  repeat' apply And.intro
  all_goals first | trivial | rfl | omega | (simp only;omega)
 simp only[decide_eq_false_iff_not]at hi
 obtain rfl:i=16:=by omega
 refine ⟨⟨(16,w),⟨by simp,by simp,h2,h3⟩,?_⟩,?_⟩
 ·repeat' apply And.intro
  all_goals first | trivial | rfl | simp
 clear hi h1 h2 h3 w
 rintro ⟨i,w⟩ ⟨h0,h1,h2,h3⟩
 simp only at h0 h1 h2 h3
 simp only[Int.toNat_natCast]
 refine ⟨fun hi=> ?_,fun hi=> ?_⟩
 ·simp only[decide_eq_true_eq]at hi
  rintro x32 hx32
  rw[wrap64 (by omega) (by omega)]at hx32
  refine ⟨by omega,by omega,?_⟩
  rintro x33 rfl x34 hx34
  rw[wrap64 (by omega) (by omega)]at hx34
  refine ⟨by omega,by omega,?_⟩
  rintro x35 rfl x36 hx36
  rw[wrap64 (by omega) (by omega)]at hx36
  refine ⟨by omega,by omega,?_⟩
  rintro x37 rfl x38 hx38
  rw[wrap64 (by omega) (by omega)]at hx38
  refine ⟨by omega,by omega,?_⟩
  rintro x39 rfl x40 rfl
  refine ⟨by omega,?_⟩
  rintro x41 rfl
  refine ⟨by omega,?_⟩
  rintro x42 rfl x43 rfl x44 rfl x45 rfl x46 rfl
  refine ⟨by omega,?_⟩
  rintro x47 rfl
  refine ⟨by omega,?_⟩
  rintro x48 rfl x49 rfl x50 rfl x51 rfl x52 hx52
  have hv:x52=W xs i:=by
   have e1:w.getD x32.toNat 0=W xs (i-15):=by rw[←h3 (i-15) (by omega)];congr 1;omega
   have e2:w.getD x34.toNat 0=W xs (i-2):=by rw[←h3 (i-2) (by omega)];congr 1;omega
   have e3:w.getD x36.toNat 0=W xs (i-16):=by rw[←h3 (i-16) (by omega)];congr 1;omega
   have e4:w.getD x38.toNat 0=W xs (i-7):=by rw[←h3 (i-7) (by omega)];congr 1;omega
   rw[hx52,e1,e2,e3,e4,W_hi (t:=i) _ (by omega)]
   exact w32_sum2 _ _ _ _
  clear hx52
  refine ⟨by omega,by omega,?_⟩
  rintro x53 hx53
  rw[wrap64 (by omega) (by omega)]at hx53
  refine ⟨(i+1,w.set i x52),⟨by simp only;omega,by simp only;omega,by simp only[List.length_set];exact h2,tail w i x52 h2 h3 hv (by omega)⟩,?_,by simp only;omega⟩
  repeat' apply And.intro
  all_goals first | trivial | rfl | omega | (simp only;omega)
 simp only[decide_eq_false_iff_not]at hi
 obtain rfl:i=64:=by omega
 clear hi h0 h1
 rintro x56 rfl x57 rfl x58 rfl x59 rfl x60 rfl x61 rfl x62 rfl x63 rfl
 refine ⟨⟨(0:Nat),⟨by omega,?_⟩⟩,?_⟩
 ·repeat' apply And.intro
  all_goals first | trivial | rfl
 intro (i:Nat) (hi64:i≤64)
 refine ⟨fun hi=> ?_,fun hi=> ?_⟩
 ·simp only[decide_eq_true_eq]at hi
  refine ⟨by omega,?_⟩
  rintro x66 rfl
  refine ⟨by omega,?_⟩
  rintro x67 rfl x68 rfl
  refine ⟨by omega,?_⟩
  rintro x69 rfl x70 rfl x71 rfl x72 rfl x73 rfl x74 rfl x75 rfl x76 rfl
  refine ⟨by omega,by omega,?_⟩
  rintro x77 rfl x78 rfl
  refine ⟨by omega,by omega,?_⟩
  rintro x79 rfl x80 hx80
  rw[h3 i (by omega)]at hx80
  have hx80':x80=tOf (rounds H xs i) (at0 kL i) (W xs i):=hx80
  clear hx80
  refine ⟨by omega,?_⟩
  rintro x81 rfl
  refine ⟨by omega,?_⟩
  rintro x82 rfl x83 rfl
  refine ⟨by omega,?_⟩
  rintro x84 rfl x85 rfl x86 rfl x87 rfl x88 rfl x89 rfl x90 rfl x91 rfl x92 hx92 x93 hx93 x94 hx94
  rw[wrap64 (by omega) (by omega)]at hx94
  subst hx80'
  refine ⟨(i+1:Nat),by omega,?_,by omega⟩
  repeat' apply And.intro
  all_goals first | trivial | rfl | exact hx92 | exact hx93 | omega
 simp only[decide_eq_false_iff_not]at hi
 obtain rfl:i=64:=by omega
 rintro x96 rfl x97 rfl x98 rfl x99 rfl x100 rfl x101 rfl x102 rfl x103 rfl x104 rfl x105 rfl x106 rfl x107 rfl x108 rfl x109 rfl x110 rfl x111 rfl
 exact hup.le (memL_more (k:= [_,_,_,_,_]) (l:= [_]) [1,513,521,537,617,625] rfl (by decide)) (hK _ rfl)
end Go.Sx
namespace Go.Sx
open Go Go.Proofs
set_option maxRecDepth 100000
def gSB:G0:=fun args l K=>
 match args,l with
 | [.agg [.int .u32 (.sym h0),.int .u32 (.sym h1),.int .u32 (.sym h2),.int .u32 (.sym h3),.int .u32 (.sym h4),.int .u32 (.sym h5),.int .u32 (.sym h6),.int .u32 (.sym h7)],.slice 1 (.lit 0) (.sym n) (.sym _)],[(1,⟨true,.ints .u8 xs⟩)]=>
  (64≤n∧64≤xs.length∧Bytes xs)∧∀H,H=comp ⟨h0,h1,h2,h3,h4,h5,h6,h7⟩ xs→K (.agg [i32 H.a,i32 H.b,i32 H.c,i32 H.d,i32 H.e,i32 H.f,i32 H.g,i32 H.h]) (memL [(1,⟨true,.ints .u8 xs⟩)])
 | _,_=>False
theorem sb_good:Good gSB:=by
 constructor
 ·intro args l K K' hk h
  unfold gSB at h ⊢
  split at h
  ·exact ⟨h.1,fun H hH=>hk _ _ (h.2 H hH)⟩
  ·exact h.elim
 ·intro args l K h
  unfold gSB at h
  split at h
  ·exact ⟨_,_,h.2 _ rfl⟩
  ·exact h.elim
theorem sb_ok (args:List SV) (l:List (Nat×Reg)) (K:SV→Mem→Prop) (hup:KUp K) (h:gSB args l K):∃U,execF cxSB U Tryz.f63 64 args (memL l) K:=by
 unfold gSB at h
 split at h
 ·rename_i h0 h1 h2 h3 h4 h5 h6 h7 n c xs
  exact ⟨uSB ⟨h0,h1,h2,h3,h4,h5,h6,h7⟩ xs,sb_walk ⟨h0,h1,h2,h3,h4,h5,h6,h7⟩ xs n c K h.1.1 h.1.2.1 h.1.2.2 hup h.2⟩
 ·exact h.elim
def cSB:Ef Tryz.prog:=mkE mixed 63 Tryz.func63 (by decide) (by kernel_rfl) [] [.num,.sl 1 true] gSB sb_good sb_ok
end Go.Sx
namespace Go.Sx
open Go Go.Proofs
def cxSS:Cx Tryz.prog:= { rds:= [],efs:= [cSB],eqs:= [] }
def liSS0 (xs:List Int) (l:Nat):LI where
 ι:=Nat×List Int×Nat
 keep:= [0]
 keepR:= [1]
 F:=fun i=>⟨[(3,.slice 569 (.lit 0) (.sym (l+1+i.1)) (.sym i.2.2))],[(569,⟨false,.ints .u8 i.2.1⟩)]⟩
 I:=fun _ i=>Rw i.2.1 (xs++128::List.replicate i.1 0) (l+1+i.1) i.2.2∧i.1+1≤padN l
 μ:=fun i=>padN l-i.1
 k:=1
def liSS4 (m:List Int):LI where
 ι:=Nat
 keep:= [0,3,6]
 keepR:= [1,1513]
 F:=fun i=>⟨[(7,i64n (64*i))],[(1577,⟨false,s8C (hB S0 m i)⟩)]⟩
 I:=fun _ i=>64*i≤m.length
 μ:=fun i=>m.length-64*i
def uSS (xs:List Int) (l:Nat):Nat→Lp:=fun n=>
 match n with
 | 0=> .inv (liSS0 xs l)
 | 4=> .inv (liSS4 (xs++padding xs.length))
 | _=> .un 9
end Go.Sx
namespace Go.Sx
open Go Go.Proofs
set_option maxRecDepth 100000
theorem vc_ss (xs:List Int) (l c:Nat) (K:SV→Mem→Prop):(execF cxSS (uSS xs l) Tryz.f35 64 [.slice 1 (.lit 0) (.sym l) (.sym c)] (memL [(1,⟨true,.ints .u8 xs⟩)]) K)=((((0:Nat)≤(0:Nat)∧(0:Nat)≤(0:Nat))∧Nat.le (0
 + l*1) xs.length∧(0+l)*1≤549755813888∧0+l≤549755813888)∧∀(n:Nat) (o:List Int),0+l≤n∧o.length=n*1∧List.take ((0+l)*1) o=List.take 0 (List.drop 0 [])++List.take (l*1) (List.drop 0 xs)→(((l≤n
 ∧0+n*1≤o.length)∧Nat.le (1:Nat) (1:Nat)∧(l+1)*1≤549755813888∧l+1≤549755813888)∧∀(a3:Nat) (a4:List Int),l+1≤a3∧a4.length=a3*1∧List.take ((l+1)*1) a4=List.take (l*1) (List.drop 0 o) ++
 List.take 1 (List.drop 0 [(128:Int)])→((∃m:Prod Nat (Prod (List Int) Nat),(Rw (Prod.fst (Prod.snd m)) (xs++List.cons (128:Int) (List.replicate (Prod.fst m) (0:Int))) (l+1+Prod.fst m) (Prod.snd (Prod.snd m))∧Prod.fst m +
 1≤padN l)∧((l=l∧c=c)∧l+1=l+1+Prod.fst m∧a3=Prod.snd (Prod.snd m))∧xs=xs∧a4=Prod.fst (Prod.snd m))∧∀a:Prod Nat (Prod (List Int) Nat),Rw (Prod.fst (Prod.snd a)) (xs++List.cons (128:Int)
 (List.replicate (Prod.fst a) (0:Int))) (l+1+Prod.fst a) (Prod.snd (Prod.snd a))∧Prod.fst a+1≤padN l→∀x6:Int,x6=((l+1+Prod.fst a:Nat):Int)→∀x7,x7=Int.tmod x6 (64:Int)→((x7 !=56)=true→(((l+1 +
 Prod.fst a≤Prod.snd (Prod.snd a)∧0+Prod.snd (Prod.snd a)*1≤List.length (Prod.fst (Prod.snd a)))∧Nat.le (1:Nat) (1:Nat)∧(l+1+Prod.fst a+1)*1≤549755813888∧l+1+Prod.fst a+1≤549755813888)∧∀(a6:Nat)
 (a7:List Int),l+1+Prod.fst a+1≤a6∧a7.length=a6*1∧List.take ((l+1+Prod.fst a+1)*1) a7=List.take ((l+1+Prod.fst a)*1) (List.drop 0 (Prod.fst (Prod.snd a)))++List.take 1 (List.drop 0 [(0:Int)])→∃h:
 Prod Nat (Prod (List Int) Nat),(Rw (Prod.fst (Prod.snd h)) (xs++List.cons (128:Int) (List.replicate (Prod.fst h) (0:Int))) (l+1+Prod.fst h) (Prod.snd (Prod.snd h))∧Prod.fst h+1≤padN l)∧(((l=l∧c=c)∧l+1 +
 Prod.fst a+1=l+1+Prod.fst h∧a6=Prod.snd (Prod.snd h))∧xs=xs∧a7=Prod.fst (Prod.snd h))∧padN l-Prod.fst h<padN l-Prod.fst a))∧((x7 !=56)=false→∀bk:Int,bk=((l:Nat):Int)→∀bl,bl=IntKind.wrap
 IntKind.u64 bk→∀i,i=IntKind.wrap IntKind.u64 (bl*8)→∀bm,bm=shrv .u64 i 56→∀a8,a8=IntKind.wrap IntKind.u8 bm→(((l+1+Prod.fst a≤Prod.snd (Prod.snd a)∧0+Prod.snd (Prod.snd a)*1≤List.length (Prod.fst
 (Prod.snd a)))∧Nat.le (1:Nat) (List.length [a8])∧(l+1+Prod.fst a+1)*1≤549755813888∧l+1+Prod.fst a+1≤549755813888)∧∀(p:Nat) (q:List Int),l+1+Prod.fst a+1≤p∧q.length=p*1∧List.take ((l+1 +
 Prod.fst a+1)*1) q=List.take ((l+1+Prod.fst a)*1) (List.drop 0 (Prod.fst (Prod.snd a)))++List.take 1 (List.drop 0 [a8])→∀bn,bn=shrv .u64 i 48→∀a9,a9=IntKind.wrap IntKind.u8 bn→(((l+1+Prod.fst a+1≤p∧0 +
 p*1≤q.length)∧Nat.le (1:Nat) (List.length [a9])∧(l+1+Prod.fst a+1+1)*1≤549755813888∧l+1+Prod.fst a+1+1≤549755813888)∧∀(r:Nat) (s:List Int),l+1+Prod.fst a+1+1≤r∧s.length=r*1∧
 List.take ((l+1+Prod.fst a+1+1)*1) s=List.take ((l+1+Prod.fst a+1)*1) (List.drop 0 q)++List.take 1 (List.drop 0 [a9])→∀bo,bo=shrv .u64 i 40→∀ba,ba=IntKind.wrap IntKind.u8 bo→(((l+1+Prod.fst a+1+1
 ≤r∧0+r*1≤s.length)∧Nat.le (1:Nat) (List.length [ba])∧(l+1+Prod.fst a+1+1+1)*1≤549755813888∧l+1+Prod.fst a+1+1+1≤549755813888)∧∀(t:Nat) (u:List Int),l+1+Prod.fst a+1+1+1≤t∧
 u.length=t*1∧List.take ((l+1+Prod.fst a+1+1+1)*1) u=List.take ((l+1+Prod.fst a+1+1)*1) (List.drop 0 s)++List.take 1 (List.drop 0 [ba])→∀bp,bp=shrv .u64 i 32→∀bb,bb=IntKind.wrap IntKind.u8 bp→
 (((l+1+Prod.fst a+1+1+1≤t∧0+t*1≤u.length)∧Nat.le (1:Nat) (List.length [bb])∧(l+1+Prod.fst a+1+1+1+1)*1≤549755813888∧l+1+Prod.fst a+1+1+1+1≤549755813888)∧∀(v:Nat) (w:List
 Int),l+1+Prod.fst a+1+1+1+1≤v∧w.length=v*1∧List.take ((l+1+Prod.fst a+1+1+1+1)*1) w=List.take ((l+1+Prod.fst a+1+1+1)*1) (List.drop 0 u)++List.take 1 (List.drop 0 [bb])→∀bq,bq=shrv
 .u64 i 24→∀bc,bc=IntKind.wrap IntKind.u8 bq→(((l+1+Prod.fst a+1+1+1+1≤v∧0+v*1≤w.length)∧Nat.le (1:Nat) (List.length [bc])∧(l+1+Prod.fst a+1+1+1+1+1)*1≤549755813888∧l+1+Prod.fst a
 + 1+1+1+1+1≤549755813888)∧∀(x:Nat) (y:List Int),l+1+Prod.fst a+1+1+1+1+1≤x∧y.length=x*1∧List.take ((l+1+Prod.fst a+1+1+1+1+1)*1) y=List.take ((l+1+Prod.fst a+1+1+1+1)
 * 1) (List.drop 0 w)++List.take 1 (List.drop 0 [bc])→∀br,br=shrv .u64 i 16→∀bd,bd=IntKind.wrap IntKind.u8 br→(((l+1+Prod.fst a+1+1+1+1+1≤x∧0+x*1≤y.length)∧Nat.le (1:Nat) (List.length [bd])∧(l +
 1+Prod.fst a+1+1+1+1+1+1)*1≤549755813888∧l+1+Prod.fst a+1+1+1+1+1+1≤549755813888)∧∀(z:Nat) (A:List Int),l+1+Prod.fst a+1+1+1+1+1+1≤z∧A.length=z*1∧List.take ((l+1 +
 Prod.fst a+1+1+1+1+1+1)*1) A=List.take ((l+1+Prod.fst a+1+1+1+1+1)*1) (List.drop 0 y)++List.take 1 (List.drop 0 [bd])→∀bs,bs=shrv .u64 i 8→∀be,be=IntKind.wrap IntKind.u8 bs→(((l+1 +
 Prod.fst a+1+1+1+1+1+1≤z∧0+z*1≤A.length)∧Nat.le (1:Nat) (List.length [be])∧(l+1+Prod.fst a+1+1+1+1+1+1+1)*1≤549755813888∧l+1+Prod.fst a+1+1+1+1+1+1+1≤549755813888)∧∀
 (B:Nat) (C:List Int),l+1+Prod.fst a+1+1+1+1+1+1+1≤B∧C.length=B*1∧List.take ((l+1+Prod.fst a+1+1+1+1+1+1+1)*1) C=List.take ((l+1+Prod.fst a+1+1+1+1+1+1)*1) (List.drop
 0 A)++List.take 1 (List.drop 0 [be])→∀bt,bt=shrv .u64 i 0→∀bf,bf=IntKind.wrap IntKind.u8 bt→(((l+1+Prod.fst a+1+1+1+1+1+1+1≤B∧0+B*1≤C.length)∧Nat.le (1:Nat) (List.length [bf])∧(l+1 +
 Prod.fst a+1+1+1+1+1+1+1+1)*1≤549755813888∧l+1+Prod.fst a+1+1+1+1+1+1+1+1≤549755813888)∧∀(d:Nat) (e:List Int),l+1+Prod.fst a+1+1+1+1+1+1+1+1≤d∧e.length=d*1∧
 List.take ((l+1+Prod.fst a+1+1+1+1+1+1+1+1)*1) e=List.take ((l+1+Prod.fst a+1+1+1+1+1+1+1)*1) (List.drop 0 C)++List.take 1 (List.drop 0 [bf])→((∃g:Nat,64*g≤List.length (xs++padding
 xs.length)∧((l=l∧c=c)∧(l+1+Prod.fst a+1+1+1+1+1+1+1+1=l+1+Prod.fst a+1+1+1+1+1+1+1+1∧d=d)∧0=((64*g:Nat):Int))∧xs=xs∧e=e∧1779033703=S8.a (hB S0 (xs++padding
 xs.length) g)∧3144134277=S8.b (hB S0 (xs++padding xs.length) g)∧1013904242=S8.c (hB S0 (xs++padding xs.length) g)∧2773480762=S8.d (hB S0 (xs++padding xs.length) g)∧1359893119=S8.e (hB S0 (xs++padding xs.length) g)∧
 2600822924=S8.f (hB S0 (xs++padding xs.length) g)∧528734635=S8.g (hB S0 (xs++padding xs.length) g)∧1541459225=S8.h (hB S0 (xs++padding xs.length) g))∧∀b:Nat,64*b≤List.length (xs++padding xs.length)→∀bg:Int,
 bg=((l+1+Prod.fst a+1+1+1+1+1+1+1+1:Nat):Int)→(decide (((64*b:Nat):Int)<bg)=true→∀bu,bu=S8.a (hB S0 (xs++padding xs.length) b)→∀bv,bv=S8.b (hB S0 (xs++padding xs.length) b)→∀bw,bw=
 S8.c (hB S0 (xs++padding xs.length) b)→∀bx,bx=S8.d (hB S0 (xs++padding xs.length) b)→∀bz,bz=S8.e (hB S0 (xs++padding xs.length) b)→∀b0,b0=S8.f (hB S0 (xs++padding xs.length) b)→∀b1,b1=S8.g (hB S0 (xs ++
 padding xs.length) b)→∀b2,b2=S8.h (hB S0 (xs++padding xs.length) b)→∀j,j=IntKind.wrap IntKind.i64 (((64*b:Nat):Int)+64)→((0≤j∧j≤((d:Nat):Int))∧0≤((64*b:Nat):Int)∧((64*b:Nat):Int)≤
 ((Int.toNat j:Nat):Int))∧(if d=Int.toNat ((64*b:Nat):Int)then (0:Nat)else Int.toNat ((64*b:Nat):Int)*1)+(Int.toNat j-Int.toNat ((64*b:Nat):Int))*1≤e.length∧((64≤Int.toNat j-Int.toNat ((64*b:
 Nat):Int)∧64≤List.length (List.take ((Int.toNat j-Int.toNat ((64*b:Nat):Int))*1) (List.drop (if d=Int.toNat ((64*b:Nat):Int)then (0:Nat)else Int.toNat ((64*b:Nat):Int)*1) e))∧Bytes (List.take
 ((Int.toNat j-Int.toNat ((64*b:Nat):Int))*1) (List.drop (if d=Int.toNat ((64*b:Nat):Int)then (0:Nat)else Int.toNat ((64*b:Nat):Int)*1) e)))∧∀k:S8,k=comp (S8.mk bu bv bw bx bz b0 b1 b2) (List.take
 ((Int.toNat j-Int.toNat ((64*b:Nat):Int))*1) (List.drop (if d=Int.toNat ((64*b:Nat):Int)then (0:Nat)else Int.toNat ((64*b:Nat):Int)*1) e))→∀b3,b3=IntKind.wrap IntKind.i64 (((64*b:Nat):Int)+64)→
 ∃f:Nat,64*f≤List.length (xs++padding xs.length)∧(((l=l∧c=c)∧(l+1+Prod.fst a+1+1+1+1+1+1+1+1=l+1+Prod.fst a+1+1+1+1+1+1+1+1∧d=d)∧b3=((64*f:Nat):Int))∧xs=xs∧e
 =e∧S8.a k=S8.a (hB S0 (xs++padding xs.length) f)∧S8.b k=S8.b (hB S0 (xs++padding xs.length) f)∧S8.c k=S8.c (hB S0 (xs++padding xs.length) f)∧S8.d k=S8.d (hB S0 (xs++padding xs.length) f)∧S8.e k=S8.e (hB S0 (xs
 ++padding xs.length) f)∧S8.f k=S8.f (hB S0 (xs++padding xs.length) f)∧S8.g k=S8.g (hB S0 (xs++padding xs.length) f)∧S8.h k=S8.h (hB S0 (xs++padding xs.length) f))∧List.length (xs++padding xs.length)-64*f <
 List.length (xs++padding xs.length)-64*b))∧(decide (((64*b:Nat):Int)<bg)=false→∀b4,b4=shrv .u32 (S8.a (hB S0 (xs++padding xs.length) b)) 24→∀D,D=IntKind.wrap IntKind.u8 b4→∀b5,b5=shrv .u32 (S8.a (hB S0
 (xs++padding xs.length) b)) 16→∀E,E=IntKind.wrap IntKind.u8 b5→∀b6,b6=shrv .u32 (S8.a (hB S0 (xs++padding xs.length) b)) 8→∀F,F=IntKind.wrap IntKind.u8 b6→∀G,G=IntKind.wrap IntKind.u8 (S8.a (hB S0 (xs++padding
 xs.length) b))→((((0:Nat)≤(0:Nat)∧(0:Nat)≤(0:Nat))∧Nat.le (4:Nat) (List.length [D,E,F,G])∧(4:Nat)≤(549755813888:Nat)∧(4:Nat)≤(549755813888:Nat))∧∀(H:Nat) (I:List Int),4≤H∧I.length=H*1
 ∧List.take 4 I=List.take 0 (List.drop 0 [])++List.take 4 (List.drop 0 [D,E,F,G])→∀b7,b7=shrv .u32 (S8.b (hB S0 (xs++padding xs.length) b)) 24→∀J,J=IntKind.wrap IntKind.u8 b7→∀b8,b8=shrv .u32 (S8.b (hB S0 (xs ++
 padding xs.length) b)) 16→∀L,L=IntKind.wrap IntKind.u8 b8→∀b9,b9=shrv .u32 (S8.b (hB S0 (xs++padding xs.length) b)) 8→∀M,M=IntKind.wrap IntKind.u8 b9→∀N,N=IntKind.wrap IntKind.u8 (S8.b (hB S0 (xs++padding
 xs.length) b))→(((4≤H∧0+H*1≤I.length)∧Nat.le (4:Nat) (List.length [J,L,M,N])∧(8:Nat)≤(549755813888:Nat)∧(8:Nat)≤(549755813888:Nat))∧∀(O:Nat) (Q:List Int),8≤O∧Q.length=O*1∧List.take 8 Q=
 List.take 4 (List.drop 0 I)++List.take 4 (List.drop 0 [J,L,M,N])→∀ca,ca=shrv .u32 (S8.c (hB S0 (xs++padding xs.length) b)) 24→∀R,R=IntKind.wrap IntKind.u8 ca→∀cb,cb=shrv .u32 (S8.c (hB S0 (xs++padding xs.length)
 b)) 16→∀S,S=IntKind.wrap IntKind.u8 cb→∀cc,cc=shrv .u32 (S8.c (hB S0 (xs++padding xs.length) b)) 8→∀T,T=IntKind.wrap IntKind.u8 cc→∀V,V=IntKind.wrap IntKind.u8 (S8.c (hB S0 (xs++padding xs.length) b))→(((8≤O
 ∧0+O*1≤Q.length)∧Nat.le (4:Nat) (List.length [R,S,T,V])∧(12:Nat)≤(549755813888:Nat)∧(12:Nat)≤(549755813888:Nat))∧∀(X:Nat) (Y:List Int),12≤X∧Y.length=X*1∧List.take 12 Y=List.take 8
 (List.drop 0 Q)++List.take 4 (List.drop 0 [R,S,T,V])→∀cd,cd=shrv .u32 (S8.d (hB S0 (xs++padding xs.length) b)) 24→∀Z,Z=IntKind.wrap IntKind.u8 cd→∀ce,ce=shrv .u32 (S8.d (hB S0 (xs++padding xs.length) b)) 16→∀
 aa,aa=IntKind.wrap IntKind.u8 ce→∀cf,cf=shrv .u32 (S8.d (hB S0 (xs++padding xs.length) b)) 8→∀ab,ab=IntKind.wrap IntKind.u8 cf→∀ac,ac=IntKind.wrap IntKind.u8 (S8.d (hB S0 (xs++padding xs.length) b))→(((12≤X∧0
 + X*1≤Y.length)∧Nat.le (4:Nat) (List.length [Z,aa,ab,ac])∧(16:Nat)≤(549755813888:Nat)∧(16:Nat)≤(549755813888:Nat))∧∀(ad:Nat) (ae:List Int),16≤ad∧ae.length=ad*1∧List.take 16 ae=List.take 12
 (List.drop 0 Y)++List.take 4 (List.drop 0 [Z,aa,ab,ac])→∀cg,cg=shrv .u32 (S8.e (hB S0 (xs++padding xs.length) b)) 24→∀af,af=IntKind.wrap IntKind.u8 cg→∀ch,ch=shrv .u32 (S8.e (hB S0 (xs++padding xs.length) b)) 16
 →∀ag,ag=IntKind.wrap IntKind.u8 ch→∀ci,ci=shrv .u32 (S8.e (hB S0 (xs++padding xs.length) b)) 8→∀ah,ah=IntKind.wrap IntKind.u8 ci→∀ai,ai=IntKind.wrap IntKind.u8 (S8.e (hB S0 (xs++padding xs.length) b))→(((16≤
 ad∧0+ad*1≤ae.length)∧Nat.le (4:Nat) (List.length [af,ag,ah,ai])∧(20:Nat)≤(549755813888:Nat)∧(20:Nat)≤(549755813888:Nat))∧∀(aj:Nat) (ak:List Int),20≤aj∧ak.length=aj*1∧List.take 20 ak=
 List.take 16 (List.drop 0 ae)++List.take 4 (List.drop 0 [af,ag,ah,ai])→∀cj,cj=shrv .u32 (S8.f (hB S0 (xs++padding xs.length) b)) 24→∀al,al=IntKind.wrap IntKind.u8 cj→∀ck,ck=shrv .u32 (S8.f (hB S0 (xs++padding
 xs.length) b)) 16→∀am,am=IntKind.wrap IntKind.u8 ck→∀cl,cl=shrv .u32 (S8.f (hB S0 (xs++padding xs.length) b)) 8→∀an,an=IntKind.wrap IntKind.u8 cl→∀ao,ao=IntKind.wrap IntKind.u8 (S8.f (hB S0 (xs++padding
 xs.length) b))→(((20≤aj∧0+aj*1≤ak.length)∧Nat.le (4:Nat) (List.length [al,am,an,ao])∧(24:Nat)≤(549755813888:Nat)∧(24:Nat)≤(549755813888:Nat))∧∀(ap:Nat) (aq:List Int),24≤ap∧aq.length=ap*1∧
 List.take 24 aq=List.take 20 (List.drop 0 ak)++List.take 4 (List.drop 0 [al,am,an,ao])→∀cm,cm=shrv .u32 (S8.g (hB S0 (xs++padding xs.length) b)) 24→∀ar,ar=IntKind.wrap IntKind.u8 cm→∀cn,cn=shrv .u32 (S8.g (hB S0
 (xs++padding xs.length) b)) 16→∀au,au=IntKind.wrap IntKind.u8 cn→∀co,co=shrv .u32 (S8.g (hB S0 (xs++padding xs.length) b)) 8→∀av,av=IntKind.wrap IntKind.u8 co→∀aw,aw=IntKind.wrap IntKind.u8 (S8.g (hB S0 (xs ++
 padding xs.length) b))→(((24≤ap∧0+ap*1≤aq.length)∧Nat.le (4:Nat) (List.length [ar,au,av,aw])∧(28:Nat)≤(549755813888:Nat)∧(28:Nat)≤(549755813888:Nat))∧∀(ax:Nat) (ay:List Int),28≤ax∧ay.length=
 ax*1∧List.take 28 ay=List.take 24 (List.drop 0 aq)++List.take 4 (List.drop 0 [ar,au,av,aw])→∀cp,cp=shrv .u32 (S8.h (hB S0 (xs++padding xs.length) b)) 24→∀az,az=IntKind.wrap IntKind.u8 cp→∀cq,cq=shrv .u32
 (S8.h (hB S0 (xs++padding xs.length) b)) 16→∀a0,a0=IntKind.wrap IntKind.u8 cq→∀cr,cr=shrv .u32 (S8.h (hB S0 (xs++padding xs.length) b)) 8→∀a1,a1=IntKind.wrap IntKind.u8 cr→∀a2,a2=IntKind.wrap IntKind.u8 (S8.h
 (hB S0 (xs++padding xs.length) b))→(((28≤ax∧0+ax*1≤ay.length)∧Nat.le (4:Nat) (List.length [az,a0,a1,a2])∧(32:Nat)≤(549755813888:Nat)∧(32:Nat)≤(549755813888:Nat))∧∀(bh:Nat) (bi:List Int),32≤bh
 ∧bi.length=bh*1∧List.take 32 bi=List.take 28 (List.drop 0 ay)++List.take 4 (List.drop 0 [az,a0,a1,a2])→K (.slice 3409 (.lit 0) (.lit 32) (.sym bh)) (memL [(1,⟨true,.ints .u8 xs⟩),(1513,⟨false,.ints .u8 e⟩),(1577,
 ⟨false,.cells [.int .u32 (.sym (S8.a (hB S0 (xs++padding xs.length) b))),.int .u32 (.sym (S8.b (hB S0 (xs++padding xs.length) b))),.int .u32 (.sym (S8.c (hB S0 (xs++padding xs.length) b))),.int .u32 (.sym (S8.d (hB S0 (xs ++
 padding xs.length) b))),.int .u32 (.sym (S8.e (hB S0 (xs++padding xs.length) b))),.int .u32 (.sym (S8.f (hB S0 (xs++padding xs.length) b))),.int .u32 (.sym (S8.g (hB S0 (xs++padding xs.length) b))),.int .u32 (.sym (S8.h (hB S0
 (xs++padding xs.length) b)))]⟩),(1833,⟨false,.cells [.int .u8 (.sym D),.int .u8 (.sym E),.int .u8 (.sym F),.int .u8 (.sym G)]⟩),(2057,⟨false,.cells [.int .u8 (.sym J),.int .u8 (.sym L),.int .u8 (.sym M),.int .u8 (.sym N)]⟩),
 (2281,⟨false,.cells [.int .u8 (.sym R),.int .u8 (.sym S),.int .u8 (.sym T),.int .u8 (.sym V)]⟩),(2505,⟨false,.cells [.int .u8 (.sym Z),.int .u8 (.sym aa),.int .u8 (.sym ab),.int .u8 (.sym ac)]⟩),(2729,⟨false,.cells [.int .u8
 (.sym af),.int .u8 (.sym ag),.int .u8 (.sym ah),.int .u8 (.sym ai)]⟩),(2953,⟨false,.cells [.int .u8 (.sym al),.int .u8 (.sym am),.int .u8 (.sym an),.int .u8 (.sym ao)]⟩),(3177,⟨false,.cells [.int .u8 (.sym ar),.int .u8 (.sym
 au),.int .u8 (.sym av),.int .u8 (.sym aw)]⟩),(3401,⟨false,.cells [.int .u8 (.sym az),.int .u8 (.sym a0),.int .u8 (.sym a1),.int .u8 (.sym a2)]⟩),(3409,⟨false,.ints .u8 bi⟩)]))))))))))))))))))))))):=by kernel_rfl
end Go.Sx
namespace Go.Sx
open Go Go.Proofs
set_option maxRecDepth 100000
set_option maxHeartbeats 4000000
theorem shl3 {n:Nat} (h:n<2 ^ 40):IntKind.u64.wrap (IntKind.u64.wrap (n:Int)*8)=shlv .u64 (n:Int) 3:=by
 rw[wrapu64 (x:=(n:Int)) (by omega) (by omega)]
 rfl
theorem pad_stop {l j:Nat} (h:j+1≤padN l) (h2:(l+1+j)%64=56):j+1=padN l:=by
 unfold padN at *
 split at h<;>split<;>omega
theorem pad_go {l j:Nat} (h:j+1≤padN l) (h2:(l+1+j)%64≠56):j+2≤padN l:=by
 unfold padN at *
 split at h<;>split<;>omega
theorem padN_pos (l:Nat):1≤padN l∧padN l≤64:=by unfold padN;split<;>omega
theorem pad_sum (l:Nat):(l+padN l+8)%64=0:=by unfold padN;split<;>omega
theorem ss_walk (xs:List Int) (l c:Nat) (K:SV→Mem→Prop) (hl:xs.length=l) (hbig:l≤2 ^ 38) (hb:Bytes xs) (hup:KUp K)
  (hK:∀ys cap,Rw ys (sha xs) 32 cap→K (.slice 3409 (.lit 0) (.lit 32) (.sym cap)) (memL [(1,⟨true,.ints .u8 xs⟩),(3409,⟨false,.ints .u8 ys⟩)])):
  execF cxSS (uSS xs l) Tryz.f35 64 [.slice 1 (.lit 0) (.sym l) (.sym c)] (memL [(1,⟨true,.ints .u8 xs⟩)]) K:=by
 rw[vc_ss]
 have hpp:=padN_pos l
 refine ⟨⟨by omega,nle (by omega),by omega,by omega⟩,fun cap0 ys1 e0=> ?_⟩
 have r0:=Rw.first hl e0
 refine ⟨⟨r0.fits,nle (Nat.le_refl _),by omega,by omega⟩,fun cap2 ys3 e2=> ?_⟩
 have r1:=r0.next (zs:= [128]) (m:=1) rfl e2
 refine ⟨⟨(0,ys3,cap2),⟨r1,by simp only;omega⟩,?_⟩,?_⟩
 ·repeat' apply And.intro
  all_goals first | trivial | rfl
 clear r0 r1 e0 e2 ys1 ys3 cap0 cap2
 rintro ⟨j,y,cp⟩ ⟨r0,hj⟩
 simp only at r0 hj
 rintro x6 rfl x7 hx7
 have e7:x7=((l+1+j)%64:Nat):=by rw[hx7];exact_mod_cast rfl
 simp only
 refine ⟨fun h=> ?_,fun h=> ?_⟩
 ·have hne:(l+1+j)%64≠56:=by
   intro e
   rw[e7,e]at h
   exact absurd h (by decide)
  have hj2:=pad_go hj hne
  refine ⟨⟨r0.fits,nle (Nat.le_refl _),by omega,by omega⟩,fun cap8 ys9 e8=> ?_⟩
  have r1:=r0.next (zs:= [0]) (m:=1) rfl e8
  refine ⟨(j+1,ys9,cap8),⟨?_,by simp only;omega⟩,?_,by simp only;omega⟩
  ·have:xs++128::List.replicate j 0++ [0]=xs++128::List.replicate (j+1) (0:Int):=by
    rw[List.append_assoc,List.cons_append,List.replicate_succ' (n:=j)]
   rw[this]at r1
   exact r1
  ·repeat' apply And.intro
   all_goals first | trivial | rfl | omega
 have h56:(l+1+j)%64=56:=by
  rw[e7]at h
  simp only[bne_eq_false_iff_eq]at h
  omega
 have hjp:=pad_stop hj h56
 have hps:=pad_sum l
 rintro x11 rfl x12 rfl x13 hx13
 rw[shl3 (by omega)]at hx13
 rintro x14 rfl x15 rfl
 refine ⟨⟨r0.fits,nle (Nat.le_refl _),by omega,by omega⟩,fun cap16 ys17 e16=> ?_⟩
 have r1:=r0.next (zs:= [b64 x13 56]) (m:=1) rfl e16
 clear r0
 rintro x18 rfl x19 rfl
 refine ⟨⟨r1.fits,nle (Nat.le_refl _),by omega,by omega⟩,fun cap20 ys21 e20=> ?_⟩
 have r2:=r1.next (zs:= [b64 x13 48]) (m:=1) rfl e20
 clear r1
 rintro x22 rfl x23 rfl
 refine ⟨⟨r2.fits,nle (Nat.le_refl _),by omega,by omega⟩,fun cap24 ys25 e24=> ?_⟩
 have r3:=r2.next (zs:= [b64 x13 40]) (m:=1) rfl e24
 clear r2
 rintro x26 rfl x27 rfl
 refine ⟨⟨r3.fits,nle (Nat.le_refl _),by omega,by omega⟩,fun cap28 ys29 e28=> ?_⟩
 have r4:=r3.next (zs:= [b64 x13 32]) (m:=1) rfl e28
 clear r3
 rintro x30 rfl x31 rfl
 refine ⟨⟨r4.fits,nle (Nat.le_refl _),by omega,by omega⟩,fun cap32 ys33 e32=> ?_⟩
 have r5:=r4.next (zs:= [b64 x13 24]) (m:=1) rfl e32
 clear r4
 rintro x34 rfl x35 rfl
 refine ⟨⟨r5.fits,nle (Nat.le_refl _),by omega,by omega⟩,fun cap36 ys37 e36=> ?_⟩
 have r6:=r5.next (zs:= [b64 x13 16]) (m:=1) rfl e36
 clear r5
 rintro x38 rfl x39 rfl
 refine ⟨⟨r6.fits,nle (Nat.le_refl _),by omega,by omega⟩,fun cap40 ys41 e40=> ?_⟩
 have r7:=r6.next (zs:= [b64 x13 8]) (m:=1) rfl e40
 clear r6
 rintro x42 rfl x43 rfl
 refine ⟨⟨r7.fits,nle (Nat.le_refl _),by omega,by omega⟩,fun cap44 ys45 e44=> ?_⟩
 have r8:=r7.next (zs:= [b64 x13 0]) (m:=1) rfl e44
 clear r7
 have hm:xs++128::List.replicate j 0++ [b64 x13 56]++ [b64 x13 48]++ [b64 x13 40]++ [b64 x13 32]++ [b64 x13 24]++ [b64 x13 16]++ [b64 x13 8]++ [b64 x13 0]=xs++padding xs.length:=by
  rw[hl]
  unfold padding
  rw[←hjp,Nat.add_sub_cancel,←hx13]
  simp only[List.append_assoc,List.cons_append,List.nil_append]
  rfl
 rw[hm]at r8
 have hml:=r8.xl
 have hpb:Bytes (xs++padding xs.length):=hb.append (padding_bytes _)
 clear hm e7 hx7 h hj hx13 e16 e20 e24 e28 e32 e36 e40 e44
 generalize hmm:xs++padding xs.length=m at *
 have hsha:sha xs=out32 (hB S0 m (m.length / 64)):=by
  unfold sha
  rw[hmm]
  congr 2
  rw[hml,hl]
  congr 1
  omega
 refine ⟨⟨(0:Nat),by omega,?_⟩,?_⟩
 ·repeat' apply And.intro
  all_goals first | trivial | rfl
 intro (k:Nat) (hk:64*k≤m.length) x48 hx48
 refine ⟨fun hlt=> ?_,fun hlt=> ?_⟩
 ·simp only[decide_eq_true_eq]at hlt
  have hk2:64*k+64≤m.length:=by omega
  rintro x49 rfl x50 rfl x51 rfl x52 rfl x53 rfl x54 rfl x55 rfl x56 rfl x57 hx57
  rw[wrap64 (by omega) (by omega)]at hx57
  have e1:x57.toNat=64*k+64:=by omega
  have e2:Int.toNat ((64*k:Nat):Int)=64*k:=Int.toNat_natCast _
  have hcl:=r8.le
  have hcn:=r8.len
  rw[e1,e2,if_neg (by omega)]
  simp only[Nat.add_sub_cancel_left,Nat.mul_one]
  have eb:List.take 64 (List.drop (64*k) ys45)=blk m k:=by
   unfold blk
   rw[←r8.row,List.drop_take,List.take_take,Nat.min_eq_left (by omega)]
  rw[eb]
  refine ⟨⟨⟨by omega,by omega⟩,by omega,by omega⟩,by omega,⟨Nat.le_refl _,by unfold blk;simp;omega,bytes_blk hpb k⟩,?_⟩
  rintro H58 hH x59 hx59
  rw[wrap64 (by omega) (by omega)]at hx59
  have hH':H58=hB S0 m (k+1):=hH
  refine ⟨(k+1:Nat),by omega,?_,by omega⟩
  rw[←hH']
  repeat' apply And.intro
  all_goals first | trivial | rfl | omega
 simp only[decide_eq_false_iff_not]at hlt
 have hke:k=m.length / 64:=by omega
 rw[←hke]at hsha
 generalize hB S0 m k=H at *
 obtain ⟨a,b,c',d,e,f,g,h⟩:=H
 dsimp only
 rintro x61 rfl x62 rfl x63 rfl x64 rfl x65 rfl x66 rfl x67 rfl
 refine ⟨⟨by omega,nle (Nat.le_refl _),by omega,by omega⟩,fun cap68 ys69 e68=> ?_⟩
 have q1:=Rw.first (n:=4) (xs:=out4 a) rfl e68
 rintro x70 rfl x71 rfl x72 rfl x73 rfl x74 rfl x75 rfl x76 rfl
 refine ⟨⟨q1.fits,nle (Nat.le_refl _),by omega,by omega⟩,fun cap77 ys78 e77=> ?_⟩
 have q2:=q1.next (zs:=out4 b) (m:=4) rfl e77
 rintro x79 rfl x80 rfl x81 rfl x82 rfl x83 rfl x84 rfl x85 rfl
 refine ⟨⟨q2.fits,nle (Nat.le_refl _),by omega,by omega⟩,fun cap86 ys87 e86=> ?_⟩
 have q3:=q2.next (zs:=out4 c') (m:=4) rfl e86
 rintro x88 rfl x89 rfl x90 rfl x91 rfl x92 rfl x93 rfl x94 rfl
 refine ⟨⟨q3.fits,nle (Nat.le_refl _),by omega,by omega⟩,fun cap95 ys96 e95=> ?_⟩
 have q4:=q3.next (zs:=out4 d) (m:=4) rfl e95
 rintro x97 rfl x98 rfl x99 rfl x100 rfl x101 rfl x102 rfl x103 rfl
 refine ⟨⟨q4.fits,nle (Nat.le_refl _),by omega,by omega⟩,fun cap104 ys105 e104=> ?_⟩
 have q5:=q4.next (zs:=out4 e) (m:=4) rfl e104
 rintro x106 rfl x107 rfl x108 rfl x109 rfl x110 rfl x111 rfl x112 rfl
 refine ⟨⟨q5.fits,nle (Nat.le_refl _),by omega,by omega⟩,fun cap113 ys114 e113=> ?_⟩
 have q6:=q5.next (zs:=out4 f) (m:=4) rfl e113
 rintro x115 rfl x116 rfl x117 rfl x118 rfl x119 rfl x120 rfl x121 rfl
 refine ⟨⟨q6.fits,nle (Nat.le_refl _),by omega,by omega⟩,fun cap122 ys123 e122=> ?_⟩
 have q7:=q6.next (zs:=out4 g) (m:=4) rfl e122
 rintro x124 rfl x125 rfl x126 rfl x127 rfl x128 rfl x129 rfl x130 rfl
 refine ⟨⟨q7.fits,nle (Nat.le_refl _),by omega,by omega⟩,fun cap131 ys132 e131=> ?_⟩
 have q8:=q7.next (zs:=out4 h) (m:=4) rfl e131
 have hq:out4 a++out4 b++out4 c'++out4 d++out4 e++out4 f++out4 g++out4 h=sha xs:=hsha.symm
 rw[hq]at q8
 exact hup.le (memL_sub [1,1513,1577,1833,2057,2281,2505,2729,2953,3177,3401,3409] rfl (by decide) (by
  intro x hx
  simp only[List.mem_cons,List.not_mem_nil,or_false]at hx ⊢
  rcases hx with hx | hx
  ·exact .inl hx
  ·iterate 11 (apply Or.inr)
   exact hx)) (hK _ _ q8)
end Go.Sx
namespace Go.Sx
open Go Go.Proofs
set_option maxRecDepth 100000
def gSS:G0:=fun args l K=>
 match args,l with
 | [.slice 1 (.lit 0) (.sym n) (.sym _)],[(1,⟨true,.ints .u8 xs⟩)]=>
  (xs.length=n∧n≤2 ^ 38∧Bytes xs)∧∀ys cap,Rw ys (sha xs) 32 cap→K (.slice 3409 (.lit 0) (.lit 32) (.sym cap)) (memL [(1,⟨true,.ints .u8 xs⟩),(3409,⟨false,.ints .u8 ys⟩)])
 | _,_=>False
theorem ss_good:Good gSS:=by
 constructor
 ·intro args l K K' hk h
  unfold gSS at h ⊢
  split at h
  ·exact ⟨h.1,fun ys cap hy=>hk _ _ (h.2 ys cap hy)⟩
  ·exact h.elim
 ·intro args l K h
  unfold gSS at h
  split at h
  ·exact ⟨_,_,h.2 _ _ (Rw.self _)⟩
  ·exact h.elim
theorem ss_ok (args:List SV) (l:List (Nat×Reg)) (K:SV→Mem→Prop) (hup:KUp K) (h:gSS args l K):∃U,execF cxSS U Tryz.f35 64 args (memL l) K:=by
 unfold gSS at h
 split at h
 ·rename_i n c xs
  exact ⟨uSS xs n,ss_walk xs n c K h.1.1 h.1.2.1 h.1.2.2 hup h.2⟩
 ·exact h.elim
def cSS:Ef Tryz.prog:=mkE mixed 35 Tryz.func35 (by decide) (by kernel_rfl) [] [.sl 1 true] gSS ss_good ss_ok
end Go.Sx
namespace Go.Sx
open Go Go.Proofs
def cxSE:Cx Tryz.prog:= { rds:= [],efs:= [cJoin,cSS],eqs:= [] }
def liSE0 (first D:List Int) (n:Int):LI where
 ι:=Nat×(List Int×Nat)×(List Int×Nat)
 keep:= [2,7,8]
 keepR:= [577,681]
 F:=fun i=>⟨[(9,.slice 737 (.lit 0) (.sym (32*i.1)) (.sym i.2.1.2)),(10,.slice 739 (.lit 0) (.lit 32) (.sym i.2.2.2)),(11,.int .i64 (.sym ((i.1:Nat)+1)))],
  [(737,⟨false,.ints .u8 i.2.1.1⟩),(739,⟨false,.ints .u8 i.2.2.1⟩)]⟩
 I:=fun _ i=>Rw i.2.1.1 (outN first D i.1) (32*i.1) i.2.1.2∧Rw i.2.2.1 (bI first D i.1) 32 i.2.2.2∧32*(i.1:Int)<n+32
 μ:=fun i=>n.toNat+32-32*i.1
 k:=1
def liSE2:LI where
 ι:=Nat×List Int×Nat
 keep:= [2,7,8,9,10,11]
 keepR:= [577,681,737,739]
 F:=fun i=>⟨[(12,.slice 801 (.lit 0) (.sym i.1) (.sym i.2.2)),(13,i64n i.1)],[(801,⟨false,.ints .u8 i.2.1⟩)]⟩
 I:=fun st i=>Rw i.2.1 ((xorL (st.reg 681) (st.reg 739)).take i.1) i.1 i.2.2∧i.1≤32
 μ:=fun i=>32-i.1
 k:=1
def uSE (msg dst:List Int) (n:Int):Nat→Lp:=fun b=>
 match b with
 | 0=> .inv (liSE0 (firstL msg dst n) (domL dst) n)
 | 2=> .inv liSE2
 | _=> .un 0
end Go.Sx
namespace Go.Sx
open Go Go.Proofs
set_option maxRecDepth 100000
theorem vc_se (msg dst:List Int) (l c l2 c2:Nat) (n:Int) (K:SV→Mem→Prop):(execF cxSE (uSE msg dst n) Tryz.f15 64 [.slice 1 (.lit 0) (.sym l) (.sym c),.slice 9 (.lit 0) (.sym l2) (.sym c2),.int .i64 (.sym n)] (memL [(1,⟨true,
 .ints .u8 msg⟩),(9,⟨true,.ints .u8 dst⟩)]) K)=((((0:Nat)≤(0:Nat)∧(0:Nat)≤(0:Nat))∧Nat.le (0+l2*1) dst.length∧(0+l2)*1≤549755813888∧0+l2≤549755813888)∧∀(r:Nat) (s:List Int),0+l2≤r∧
 s.length=r*1∧List.take ((0+l2)*1) s=List.take 0 (List.drop 0 [])++List.take (l2*1) (List.drop 0 dst)→∀E:Int,E=((l2:Nat):Int)→∀x,x=IntKind.wrap IntKind.u8 E→(((l2≤r∧0+r*1≤s.length)∧Nat.le (1:
 Nat) (List.length [x])∧(l2+1)*1≤549755813888∧l2+1≤549755813888)∧∀(h:Nat) (d:List Int),l2+1≤h∧d.length=h*1∧List.take ((l2+1)*1) d=List.take (l2*1) (List.drop 0 s)++List.take 1 (List.drop 0 [x])→
 (((0:Int)≤(64:Int)∧(64:Int)≤(140737488355328:Int)∧(64:Int)≤(140737488355328:Int))∧∀F,F=IntKind.wrap IntKind.i64 (Int.tdiv n (256:Int))→∀t,t=IntKind.wrap IntKind.u8 F→∀u,u=IntKind.wrap IntKind.u8 n
 →((64:Nat)≤(64:Nat)∧0+l*1≤msg.length∧3≤List.length [t,u,(0:Int)]∧0+(l2+1)*1≤d.length)∧((((64:Nat)=(64:Nat)∧List.length (List.take (l*1) (List.drop 0 msg))=l∧List.length (List.take 3
 (List.drop 0 [t,u,(0:Int)]))=3∧List.length (List.take ((l2+1)*1) (List.drop 0 d))=l2+1)∧64+l+3+(l2+1)≤549755813888)∧∀(G:List Int) (R m:Nat),Rw G (List.take 64 (List.drop 0 (List.replicate 64 (0:Int)))
 ++List.take (l*1) (List.drop 0 msg)++List.take 3 (List.drop 0 [t,u,(0:Int)])++List.take ((l2+1)*1) (List.drop 0 d)) m R→∀p:List Int,p=G→0+m*1≤p.length∧((List.length (List.take (m*1) (List.drop 0 p))=m∧
 m≤274877906944∧Bytes (List.take (m*1) (List.drop 0 p)))∧∀(H:List Int) (j:Nat),Rw H (sha (List.take (m*1) (List.drop 0 p))) (32:Nat) j→∀e:List Int,e=H→((0:Int)≤(32:Int)∧(32:Int)≤(140737488355328:
 Int)∧(32:Int)≤(140737488355328:Int))∧((∃g:Prod Nat (Prod (Prod (List Int) Nat) (Prod (List Int) Nat)),(Rw (Prod.fst (Prod.fst (Prod.snd g))) (outN (firstL msg dst n) (domL dst) (Prod.fst g)) (32*Prod.fst g) (Prod.snd
 (Prod.fst (Prod.snd g)))∧Rw (Prod.fst (Prod.snd (Prod.snd g))) (bI (firstL msg dst n) (domL dst) (Prod.fst g)) (32:Nat) (Prod.snd (Prod.snd (Prod.snd g)))∧32*((Prod.fst g:Nat):Int)<n+32)∧(n=n∧(l2+1=l2+1∧h=h)
 ∧j=j∧(0=32*Prod.fst g∧0=Prod.snd (Prod.fst (Prod.snd g)))∧32=Prod.snd (Prod.snd (Prod.snd g))∧1=((Prod.fst g:Nat):Int)+1)∧d=d∧e=e∧[]=Prod.fst (Prod.fst (Prod.snd g))∧List.replicate 32 (0:Int)=
 Prod.fst (Prod.snd (Prod.snd g)))∧∀a:Prod Nat (Prod (Prod (List Int) Nat) (Prod (List Int) Nat)),Rw (Prod.fst (Prod.fst (Prod.snd a))) (outN (firstL msg dst n) (domL dst) (Prod.fst a)) (32*Prod.fst a) (Prod.snd (Prod.fst (Prod.snd
 a)))∧Rw (Prod.fst (Prod.snd (Prod.snd a))) (bI (firstL msg dst n) (domL dst) (Prod.fst a)) (32:Nat) (Prod.snd (Prod.snd (Prod.snd a)))∧32*((Prod.fst a:Nat):Int)<n+32→∀y:Int,y=((32*Prod.fst a:Nat):Int)→
 (decide (y<n)=true→((∃k:Prod Nat (Prod (List Int) Nat),(Rw (Prod.fst (Prod.snd k)) (List.take (Prod.fst k) (xorL e (Prod.fst (Prod.snd (Prod.snd a))))) (Prod.fst k) (Prod.snd (Prod.snd k))∧Prod.fst k≤32)∧(n=n∧(l2+1=
 l2+1∧h=h)∧j=j∧(32*Prod.fst a=32*Prod.fst a∧Prod.snd (Prod.fst (Prod.snd a))=Prod.snd (Prod.fst (Prod.snd a)))∧Prod.snd (Prod.snd (Prod.snd a))=Prod.snd (Prod.snd (Prod.snd a))∧((Prod.fst a:Nat):Int)+1=
 ((Prod.fst a:Nat):Int)+1∧(0=Prod.fst k∧0=Prod.snd (Prod.snd k))∧0=((Prod.fst k:Nat):Int))∧d=d∧e=e∧Prod.fst (Prod.fst (Prod.snd a))=Prod.fst (Prod.fst (Prod.snd a))∧Prod.fst (Prod.snd (Prod.snd a))=
 Prod.fst (Prod.snd (Prod.snd a))∧[]=Prod.fst (Prod.snd k))∧∀b:Prod Nat (Prod (List Int) Nat),Rw (Prod.fst (Prod.snd b)) (List.take (Prod.fst b) (xorL e (Prod.fst (Prod.snd (Prod.snd a))))) (Prod.fst b) (Prod.snd (Prod.snd b))∧
 Prod.fst b≤32→(decide (((Prod.fst b:Nat):Int)<32)=true→(0≤((Prod.fst b:Nat):Int)∧((Prod.fst b:Nat):Int)<32)∧(Int.toNat ((Prod.fst b:Nat):Int)*1+1≤e.length∧∀I:Int,I=List.getD e (Int.toNat
 ((Prod.fst b:Nat):Int)*1) (0:Int)→(0≤((Prod.fst b:Nat):Int)∧((Prod.fst b:Nat):Int)<32)∧(Int.toNat ((Prod.fst b:Nat):Int)*1+1≤List.length (Prod.fst (Prod.snd (Prod.snd a)))∧∀J:Int,J=List.getD
 (Prod.fst (Prod.snd (Prod.snd a))) (Int.toNat ((Prod.fst b:Nat):Int)*1) (0:Int)→∀z,z=bxor .u8 I J→(((Prod.fst b≤Prod.snd (Prod.snd b)∧0+Prod.snd (Prod.snd b)*1≤List.length (Prod.fst (Prod.snd b)))∧Nat.le (1:
 Nat) (List.length [z])∧(Prod.fst b+1)*1≤549755813888∧Prod.fst b+1≤549755813888)∧∀(A:Nat) (B:List Int),Prod.fst b+1≤A∧B.length=A*1∧List.take ((Prod.fst b+1)*1) B=List.take (Prod.fst b*1) (List.drop
 0 (Prod.fst (Prod.snd b)))++List.take 1 (List.drop 0 [z])→∀L,L=IntKind.wrap IntKind.i64 (((Prod.fst b:Nat):Int)+1)→∃i:Prod Nat (Prod (List Int) Nat),(Rw (Prod.fst (Prod.snd i)) (List.take (Prod.fst i) (xorL e (Prod.fst
 (Prod.snd (Prod.snd a))))) (Prod.fst i) (Prod.snd (Prod.snd i))∧Prod.fst i≤32)∧((n=n∧(l2+1=l2+1∧h=h)∧j=j∧(32*Prod.fst a=32*Prod.fst a∧Prod.snd (Prod.fst (Prod.snd a))=Prod.snd (Prod.fst (Prod.snd a)))∧
 Prod.snd (Prod.snd (Prod.snd a))=Prod.snd (Prod.snd (Prod.snd a))∧((Prod.fst a:Nat):Int)+1=((Prod.fst a:Nat):Int)+1∧(Prod.fst b+1=Prod.fst i∧A=Prod.snd (Prod.snd i))∧L=((Prod.fst i:Nat):Int))∧d=d∧e
 =e∧Prod.fst (Prod.fst (Prod.snd a))=Prod.fst (Prod.fst (Prod.snd a))∧Prod.fst (Prod.snd (Prod.snd a))=Prod.fst (Prod.snd (Prod.snd a))∧B=Prod.fst (Prod.snd i))∧32-Prod.fst i<32-Prod.fst b))))∧(decide (((Prod.fst b:
 Nat):Int)<32)=false→∀v,v=IntKind.wrap IntKind.u8 (((Prod.fst a:Nat):Int)+1)→(0+Prod.fst b*1≤List.length (Prod.fst (Prod.snd b))∧1≤List.length [v]∧0+(l2+1)*1≤d.length)∧(((List.length (List.take
 (Prod.fst b*1) (List.drop 0 (Prod.fst (Prod.snd b))))=Prod.fst b∧List.length (List.take 1 (List.drop 0 [v]))=1∧List.length (List.take ((l2+1)*1) (List.drop 0 d))=l2+1)∧Prod.fst b+1+(l2+1)≤549755813888)∧∀(M:
 List Int) (S o:Nat),Rw M (List.take (Prod.fst b*1) (List.drop 0 (Prod.fst (Prod.snd b)))++List.take 1 (List.drop 0 [v])++List.take ((l2+1)*1) (List.drop 0 d)) o S→∀q:List Int,q=M→0+o*1≤q.length∧((List.length
 (List.take (o*1) (List.drop 0 q))=o∧o≤274877906944∧Bytes (List.take (o*1) (List.drop 0 q)))∧∀(N:List Int) (O:Nat),Rw N (sha (List.take (o*1) (List.drop 0 q))) (32:Nat) O→∀w:List Int,w=N→(((32*Prod.fst a
 ≤Prod.snd (Prod.fst (Prod.snd a))∧0+Prod.snd (Prod.fst (Prod.snd a))*1≤List.length (Prod.fst (Prod.fst (Prod.snd a))))∧Nat.le (32:Nat) w.length∧(32*Prod.fst a+32)*1≤549755813888∧32*Prod.fst a+32≤549755813888)
 ∧∀(C:Nat) (D:List Int),32*Prod.fst a+32≤C∧D.length=C*1∧List.take ((32*Prod.fst a+32)*1) D=List.take (32*Prod.fst a*1) (List.drop 0 (Prod.fst (Prod.fst (Prod.snd a))))++List.take 32 (List.drop 0 w)→∀Q,
 Q=IntKind.wrap IntKind.i64 (((Prod.fst a:Nat):Int)+1+1)→∃f:Prod Nat (Prod (Prod (List Int) Nat) (Prod (List Int) Nat)),(Rw (Prod.fst (Prod.fst (Prod.snd f))) (outN (firstL msg dst n) (domL dst) (Prod.fst f)) (32*Prod.fst
 f) (Prod.snd (Prod.fst (Prod.snd f)))∧Rw (Prod.fst (Prod.snd (Prod.snd f))) (bI (firstL msg dst n) (domL dst) (Prod.fst f)) (32:Nat) (Prod.snd (Prod.snd (Prod.snd f)))∧32*((Prod.fst f:Nat):Int)<n+32)∧((n=n∧(l2+1=
 l2+1∧h=h)∧j=j∧(32*Prod.fst a+32=32*Prod.fst f∧C=Prod.snd (Prod.fst (Prod.snd f)))∧O=Prod.snd (Prod.snd (Prod.snd f))∧Q=((Prod.fst f:Nat):Int)+1)∧d=d∧e=e∧D=Prod.fst (Prod.fst (Prod.snd f))∧
 w=Prod.fst (Prod.snd (Prod.snd f)))∧Int.toNat n+32-32*Prod.fst f<Int.toNat n+32-32*Prod.fst a))))))∧(decide (y<n)=false→(0≤n∧n≤((Prod.snd (Prod.fst (Prod.snd a)):Nat):Int))∧K (.slice 737 (.lit 0) (.sym
 (Int.toNat n-0)) (.sym (Prod.snd (Prod.fst (Prod.snd a))-0))) (memL [(577,⟨false,.ints .u8 d⟩),(681,⟨false,.ints .u8 e⟩),(737,⟨false,.ints .u8 (Prod.fst (Prod.fst (Prod.snd a)))⟩),(739,⟨false,.ints .u8 (Prod.fst (Prod.snd
 (Prod.snd a)))⟩)])))))))):=by kernel_rfl
theorem vc_sen (dst:List Int) (l2 c2:Nat) (n:Int) (K:SV→Mem→Prop):(execF cxSE (uSE [] dst n) Tryz.f15 64 [.val (.slice none 0 0),.slice 1 (.lit 0) (.sym l2) (.sym c2),.int .i64 (.sym n)] (memL [(1,⟨true,.ints .u8 dst⟩)]) K)
 =((((0:Nat)≤(0:Nat)∧(0:Nat)≤(0:Nat))∧Nat.le (0+l2*1) dst.length∧(0+l2)*1≤549755813888∧0+l2≤549755813888)∧∀(p:Nat) (q:List Int),0+l2≤p∧q.length=p*1∧List.take ((0+l2)*1) q=
 List.take 0 (List.drop 0 [])++List.take (l2*1) (List.drop 0 dst)→∀C:Int,C=((l2:Nat):Int)→∀v,v=IntKind.wrap IntKind.u8 C→(((l2≤p∧0+p*1≤q.length)∧Nat.le (1:Nat) (List.length [v])∧(l2+1)*1≤
 549755813888∧l2+1≤549755813888)∧∀(g:Nat) (c:List Int),l2+1≤g∧c.length=g*1∧List.take ((l2+1)*1) c=List.take (l2*1) (List.drop 0 q)++List.take 1 (List.drop 0 [v])→(((0:Int)≤(64:Int)∧(64:Int)≤
 (140737488355328:Int)∧(64:Int)≤(140737488355328:Int))∧∀D,D=IntKind.wrap IntKind.i64 (Int.tdiv n (256:Int))→∀r,r=IntKind.wrap IntKind.u8 D→∀s,s=IntKind.wrap IntKind.u8 n→((64:Nat)≤(64:Nat)∧3≤
 List.length [r,s,(0:Int)]∧0+(l2+1)*1≤c.length)∧((((64:Nat)=(64:Nat)∧List.length (List.take 3 (List.drop 0 [r,s,(0:Int)]))=3∧List.length (List.take ((l2+1)*1) (List.drop 0 c))=l2+1)∧67+(l2+1)≤
 549755813888)∧∀(E:List Int) (O k:Nat),Rw E (List.take 64 (List.drop 0 (List.replicate 64 (0:Int)))++List.take 3 (List.drop 0 [r,s,(0:Int)])++List.take ((l2+1)*1) (List.drop 0 c)) k O→∀m:List Int,m=E→0+k *
 1≤m.length∧((List.length (List.take (k*1) (List.drop 0 m))=k∧k≤274877906944∧Bytes (List.take (k*1) (List.drop 0 m)))∧∀(F:List Int) (i:Nat),Rw F (sha (List.take (k*1) (List.drop 0 m))) (32:Nat) i→∀d:List
 Int,d=F→((0:Int)≤(32:Int)∧(32:Int)≤(140737488355328:Int)∧(32:Int)≤(140737488355328:Int))∧((∃f:Prod Nat (Prod (Prod (List Int) Nat) (Prod (List Int) Nat)),(Rw (Prod.fst (Prod.fst (Prod.snd f))) (outN (firstL
 [] dst n) (domL dst) (Prod.fst f)) (32*Prod.fst f) (Prod.snd (Prod.fst (Prod.snd f)))∧Rw (Prod.fst (Prod.snd (Prod.snd f))) (bI (firstL [] dst n) (domL dst) (Prod.fst f)) (32:Nat) (Prod.snd (Prod.snd (Prod.snd f)))∧32*((Prod.fst
 f:Nat):Int)<n+32)∧(n=n∧(l2+1=l2+1∧g=g)∧i=i∧(0=32*Prod.fst f∧0=Prod.snd (Prod.fst (Prod.snd f)))∧32=Prod.snd (Prod.snd (Prod.snd f))∧1=((Prod.fst f:Nat):Int)+1)∧c=c∧d=d∧[]=
 Prod.fst (Prod.fst (Prod.snd f))∧List.replicate 32 (0:Int)=Prod.fst (Prod.snd (Prod.snd f)))∧∀a:Prod Nat (Prod (Prod (List Int) Nat) (Prod (List Int) Nat)),Rw (Prod.fst (Prod.fst (Prod.snd a))) (outN (firstL [] dst n) (domL
 dst) (Prod.fst a)) (32*Prod.fst a) (Prod.snd (Prod.fst (Prod.snd a)))∧Rw (Prod.fst (Prod.snd (Prod.snd a))) (bI (firstL [] dst n) (domL dst) (Prod.fst a)) (32:Nat) (Prod.snd (Prod.snd (Prod.snd a)))∧32*((Prod.fst a:Nat):Int)
 < n+32→∀w:Int,w=((32*Prod.fst a:Nat):Int)→(decide (w<n)=true→((∃j:Prod Nat (Prod (List Int) Nat),(Rw (Prod.fst (Prod.snd j)) (List.take (Prod.fst j) (xorL d (Prod.fst (Prod.snd (Prod.snd a))))) (Prod.fst j)
 (Prod.snd (Prod.snd j))∧Prod.fst j≤32)∧(n=n∧(l2+1=l2+1∧g=g)∧i=i∧(32*Prod.fst a=32*Prod.fst a∧Prod.snd (Prod.fst (Prod.snd a))=Prod.snd (Prod.fst (Prod.snd a)))∧Prod.snd (Prod.snd (Prod.snd a))=
 Prod.snd (Prod.snd (Prod.snd a))∧((Prod.fst a:Nat):Int)+1=((Prod.fst a:Nat):Int)+1∧(0=Prod.fst j∧0=Prod.snd (Prod.snd j))∧0=((Prod.fst j:Nat):Int))∧c=c∧d=d∧Prod.fst (Prod.fst (Prod.snd a))=
 Prod.fst (Prod.fst (Prod.snd a))∧Prod.fst (Prod.snd (Prod.snd a))=Prod.fst (Prod.snd (Prod.snd a))∧[]=Prod.fst (Prod.snd j))∧∀b:Prod Nat (Prod (List Int) Nat),Rw (Prod.fst (Prod.snd b)) (List.take (Prod.fst b) (xorL d
 (Prod.fst (Prod.snd (Prod.snd a))))) (Prod.fst b) (Prod.snd (Prod.snd b))∧Prod.fst b≤32→(decide (((Prod.fst b:Nat):Int)<32)=true→(0≤((Prod.fst b:Nat):Int)∧((Prod.fst b:Nat):Int)<32)∧(Int.toNat ((Prod.fst b:
 Nat):Int)*1+1≤d.length∧∀G:Int,G=List.getD d (Int.toNat ((Prod.fst b:Nat):Int)*1) (0:Int)→(0≤((Prod.fst b:Nat):Int)∧((Prod.fst b:Nat):Int)<32)∧(Int.toNat ((Prod.fst b:Nat):Int)*1+1≤
 List.length (Prod.fst (Prod.snd (Prod.snd a)))∧∀H:Int,H=List.getD (Prod.fst (Prod.snd (Prod.snd a))) (Int.toNat ((Prod.fst b:Nat):Int)*1) (0:Int)→∀x,x=bxor .u8 G H→(((Prod.fst b≤Prod.snd (Prod.snd b)∧0 +
 Prod.snd (Prod.snd b)*1≤List.length (Prod.fst (Prod.snd b)))∧Nat.le (1:Nat) (List.length [x])∧(Prod.fst b+1)*1≤549755813888∧Prod.fst b+1≤549755813888)∧∀(y:Nat) (z:List Int),Prod.fst b+1≤y∧z.length=y *
 1∧List.take ((Prod.fst b+1)*1) z=List.take (Prod.fst b*1) (List.drop 0 (Prod.fst (Prod.snd b)))++List.take 1 (List.drop 0 [x])→∀I,I=IntKind.wrap IntKind.i64 (((Prod.fst b:Nat):Int)+1)→∃h:Prod Nat (Prod (List
 Int) Nat),(Rw (Prod.fst (Prod.snd h)) (List.take (Prod.fst h) (xorL d (Prod.fst (Prod.snd (Prod.snd a))))) (Prod.fst h) (Prod.snd (Prod.snd h))∧Prod.fst h≤32)∧((n=n∧(l2+1=l2+1∧g=g)∧i=i∧(32*Prod.fst a=32 *
 Prod.fst a∧Prod.snd (Prod.fst (Prod.snd a))=Prod.snd (Prod.fst (Prod.snd a)))∧Prod.snd (Prod.snd (Prod.snd a))=Prod.snd (Prod.snd (Prod.snd a))∧((Prod.fst a:Nat):Int)+1=((Prod.fst a:Nat):Int)+1∧(Prod.fst b+1=
 Prod.fst h∧y=Prod.snd (Prod.snd h))∧I=((Prod.fst h:Nat):Int))∧c=c∧d=d∧Prod.fst (Prod.fst (Prod.snd a))=Prod.fst (Prod.fst (Prod.snd a))∧Prod.fst (Prod.snd (Prod.snd a))=Prod.fst (Prod.snd (Prod.snd a))∧z=
 Prod.fst (Prod.snd h))∧32-Prod.fst h<32-Prod.fst b))))∧(decide (((Prod.fst b:Nat):Int)<32)=false→∀t,t=IntKind.wrap IntKind.u8 (((Prod.fst a:Nat):Int)+1)→(0+Prod.fst b*1≤List.length (Prod.fst (Prod.snd
 b))∧1≤List.length [t]∧0+(l2+1)*1≤c.length)∧(((List.length (List.take (Prod.fst b*1) (List.drop 0 (Prod.fst (Prod.snd b))))=Prod.fst b∧List.length (List.take 1 (List.drop 0 [t]))=1∧List.length (List.take ((l2+1)
 * 1) (List.drop 0 c))=l2+1)∧Prod.fst b+1+(l2+1)≤549755813888)∧∀(J:List Int) (Q l:Nat),Rw J (List.take (Prod.fst b*1) (List.drop 0 (Prod.fst (Prod.snd b)))++List.take 1 (List.drop 0 [t])++List.take ((l2+1)*1)
 (List.drop 0 c)) l Q→∀o:List Int,o=J→0+l*1≤o.length∧((List.length (List.take (l*1) (List.drop 0 o))=l∧l≤274877906944∧Bytes (List.take (l*1) (List.drop 0 o)))∧∀(L:List Int) (M:Nat),Rw L (sha (List.take
 (l*1) (List.drop 0 o))) (32:Nat) M→∀u:List Int,u=L→(((32*Prod.fst a≤Prod.snd (Prod.fst (Prod.snd a))∧0+Prod.snd (Prod.fst (Prod.snd a))*1≤List.length (Prod.fst (Prod.fst (Prod.snd a))))∧Nat.le (32:Nat)
 u.length∧(32*Prod.fst a+32)*1≤549755813888∧32*Prod.fst a+32≤549755813888)∧∀(A:Nat) (B:List Int),32*Prod.fst a+32≤A∧B.length=A*1∧List.take ((32*Prod.fst a+32)*1) B=List.take (32*Prod.fst a *
 1) (List.drop 0 (Prod.fst (Prod.fst (Prod.snd a))))++List.take 32 (List.drop 0 u)→∀N,N=IntKind.wrap IntKind.i64 (((Prod.fst a:Nat):Int)+1+1)→∃e:Prod Nat (Prod (Prod (List Int) Nat) (Prod (List Int) Nat)),(Rw (Prod.fst
 (Prod.fst (Prod.snd e))) (outN (firstL [] dst n) (domL dst) (Prod.fst e)) (32*Prod.fst e) (Prod.snd (Prod.fst (Prod.snd e)))∧Rw (Prod.fst (Prod.snd (Prod.snd e))) (bI (firstL [] dst n) (domL dst) (Prod.fst e)) (32:Nat) (Prod.snd
 (Prod.snd (Prod.snd e)))∧32*((Prod.fst e:Nat):Int)<n+32)∧((n=n∧(l2+1=l2+1∧g=g)∧i=i∧(32*Prod.fst a+32=32*Prod.fst e∧A=Prod.snd (Prod.fst (Prod.snd e)))∧M=Prod.snd (Prod.snd (Prod.snd e))∧N
 =((Prod.fst e:Nat):Int)+1)∧c=c∧d=d∧B=Prod.fst (Prod.fst (Prod.snd e))∧u=Prod.fst (Prod.snd (Prod.snd e)))∧Int.toNat n+32-32*Prod.fst e<Int.toNat n+32-32*Prod.fst a))))))∧(decide (w<n)=false→(0
 ≤n∧n≤((Prod.snd (Prod.fst (Prod.snd a)):Nat):Int))∧K (.slice 737 (.lit 0) (.sym (Int.toNat n-0)) (.sym (Prod.snd (Prod.fst (Prod.snd a))-0))) (memL [(577,⟨false,.ints .u8 c⟩),(681,⟨false,.ints .u8 d⟩),(737,⟨false,
 .ints .u8 (Prod.fst (Prod.fst (Prod.snd a)))⟩),(739,⟨false,.ints .u8 (Prod.fst (Prod.snd (Prod.snd a)))⟩)])))))))):=by kernel_rfl
end Go.Sx
namespace Go.Sx
open Go Go.Proofs
set_option maxRecDepth 100000
set_option maxHeartbeats 4000000
theorem take1 (xs:List Int) {l:Nat} (h:xs.length=l):List.take (l*1) (List.drop 0 xs)=xs:=by
 rw[Nat.mul_one,List.drop_zero,List.take_of_length_le (by omega)]
theorem Rw.take1 {ys xs:List Int} {n cap:Nat} (h:Rw ys xs n cap):List.take (n*1) (List.drop 0 ys)=xs:=by
 rw[Nat.mul_one,List.drop_zero,h.row]
theorem Rw.getD {ys xs:List Int} {n cap k:Nat} (h:Rw ys xs n cap) (hk:k<n):ys.getD k 0=xs.getD k 0:=by
 rw[←h.row]
 simp[List.getD_eq_getElem?_getD,List.getElem?_take,hk]
theorem Rw.cut {ys xs:List Int} {n m cap:Nat} (h:Rw ys xs n cap) (hm:m≤n):Rw ys (xs.take m) m cap:=
 ⟨by rw[List.length_take,h.xl];omega,Nat.le_trans hm h.le,h.len,by rw[←h.row,List.take_take,Nat.min_eq_left hm]⟩
theorem bytes3 {x y:Int}:Bytes [IntKind.u8.wrap x,IntKind.u8.wrap y,0]:=by
 intro z hz
 simp only[List.mem_cons,List.not_mem_nil,or_false]at hz
 rcases hz with rfl | rfl | rfl
 ·exact u8_range _
 ·exact u8_range _
 ·omega
theorem bytes1 {x:Int}:Bytes [IntKind.u8.wrap x]:=by
 intro z hz
 simp only[List.mem_cons,List.not_mem_nil,or_false]at hz
 rw[hz]
 exact u8_range _
theorem bytes0 (n:Nat):Bytes (List.replicate n 0):=by
 intro z hz
 rw[(List.mem_replicate.1 hz).2]
 omega
theorem expand_eq {msg dst:List Int} {n i:Nat} (h1:n≤32*i) (h2:32*i<n+32):expand msg dst n=(outN (firstL msg dst n) (domL dst) i).take n:=by
 unfold expand
 rw[show (n+31) / 32=i by omega]
theorem expand_length (msg dst:List Int) (n:Nat):(expand msg dst n).length=n:=by
 unfold expand
 rw[List.length_take,outN_length]
 omega
theorem expand_bytes (msg dst:List Int) (n:Nat):Bytes (expand msg dst n):=by
 unfold expand
 refine Bytes.take ?_ _
 generalize (n+31) / 32=k
 induction k with
 | zero=>exact Bytes.nil
 | succ k ih=>exact ih.append (bI_bytes _ _ _)
theorem se_walk (msg dst:List Int) (l c l2 c2:Nat) (n:Int) (K:SV→Mem→Prop) (hl:msg.length=l) (hl2:dst.length=l2) (hb:Bytes msg) (hb2:Bytes dst) (h1:l≤65536) (h2:l2≤65536) (hn:0≤n) (hn2:n≤65536) (hup:KUp K)
  (hK:∀ys cap,Rw ys (expand msg dst n.toNat) n.toNat cap→K (.slice 737 (.lit 0) (.sym n.toNat) (.sym cap)) (memL [(737,⟨false,.ints .u8 ys⟩)])):
  execF cxSE (uSE msg dst n) Tryz.f15 64 [.slice 1 (.lit 0) (.sym l) (.sym c),.slice 9 (.lit 0) (.sym l2) (.sym c2),.int .i64 (.sym n)] (memL [(1,⟨true,.ints .u8 msg⟩),(9,⟨true,.ints .u8 dst⟩)]) K:=by
 rw[vc_se]
 obtain ⟨nn,hnn⟩:∃nn:Nat,n=(nn:Int):=⟨n.toNat,by omega⟩
 refine ⟨⟨by omega,nle (by omega),by omega,by omega⟩,fun cap0 ys1 e0=> ?_⟩
 have r0:=Rw.first hl2 e0
 rintro x2 rfl x3 rfl
 refine ⟨⟨r0.fits,nle (Nat.le_refl _),by omega,by omega⟩,fun cap4 ys5 e4=> ?_⟩
 have rD:=r0.next (zs:= [IntKind.u8.wrap ((l2:Nat):Int)]) (m:=1) rfl e4
 have hD:dst++ [IntKind.u8.wrap ((l2:Nat):Int)]=domL dst:=by unfold domL;rw[hl2]
 rw[hD]at rD
 have hDb:=domL_bytes hb2
 have hDl:=rD.le
 have hDn:=rD.len
 refine ⟨by omega,?_⟩
 rintro x6 rfl x7 rfl x8 rfl
 refine ⟨⟨by omega,by omega,nle (Nat.le_refl _),by omega⟩,?_⟩
 refine ⟨⟨⟨rfl,by rw[take1 _ hl,hl],rfl,by rw[rD.take1,rD.xl]⟩,by omega⟩,?_⟩
 rintro ys9 cap10 n11 rJ ys12 rfl
 have hJ:=rJ.le
 have hJn:=rJ.len
 have hJx:=rJ.xl
 rw[take1 _ hl,rD.take1]at rJ hJx
 have hMl:n11=64+l+3+(l2+1):=by
  rw[←hJx]
  simp only[List.length_append,domL_length,hl2]
  simp[hl]
 refine ⟨by omega,⟨by rw[rJ.take1,rJ.xl],by omega,by
  rw[rJ.take1]
  exact (((((bytes0 64).drop 0).take 64).append hb).append ((bytes3.drop 0).take 3)).append hDb⟩,?_⟩
 rintro ys13 cap14 rF ys15 rfl
 rw[rJ.take1]at rF
 have rF:Rw ys15 (firstL msg dst n) 32 cap14:=rF
 have hFl:=rF.le
 have hFn:=rF.len
 refine ⟨by omega,?_⟩
 refine ⟨⟨(0,([],0),(List.replicate 32 0,32)),⟨⟨rfl,Nat.le_refl _,rfl,rfl⟩,⟨by simp[bI],Nat.le_refl _,by simp,by simp[bI]⟩,by simp only;omega⟩,?_⟩,?_⟩
 ·repeat' apply And.intro
  all_goals first | trivial | rfl
 rintro ⟨i,⟨oy,oc⟩,⟨ly,lc⟩⟩ ⟨rO,rL,hi⟩ x18 rfl
 simp only at rO rL hi
 simp only
 have hLl:=rL.le
 have hLn:=rL.len
 refine ⟨fun hlt=> ?_,fun hlt=> ?_⟩
 ·simp only[decide_eq_true_eq]at hlt
  refine ⟨⟨(0,[],0),⟨⟨rfl,Nat.le_refl _,rfl,rfl⟩,by simp⟩,?_⟩,?_⟩
  ·repeat' apply And.intro
   all_goals first | trivial | rfl
  rintro ⟨k,my,mc⟩ ⟨rM,hk⟩
  simp only at rM hk
  simp only[Int.toNat_natCast,Nat.mul_one]
  refine ⟨fun hk1=> ?_,fun hk1=> ?_⟩
  ·simp only[decide_eq_true_eq]at hk1
   refine ⟨by omega,by omega,?_⟩
   rintro x21 rfl
   refine ⟨by omega,by omega,?_⟩
   rintro x22 rfl x23 hx23
   refine ⟨⟨⟨rM.le,by rw[rM.len];omega⟩,nle (Nat.le_refl _),by omega,by omega⟩,fun cap24 ys25 e24=> ?_⟩
   have rM2:=rM.next (zs:= [x23]) (m:=1) rfl (by simpa only[Nat.mul_one]using e24)
   rw[hx23,←xorL_take (by omega)]at rM2
   rintro x26 hx26
   rw[wrap64 (by omega) (by omega)]at hx26
   refine ⟨(k+1,ys25,cap24),⟨rM2,by simp only;omega⟩,?_,by simp only;omega⟩
   repeat' apply And.intro
   all_goals first | trivial | rfl | (simp only;omega)
  simp only[decide_eq_false_iff_not]at hk1
  obtain rfl:k=32:=by omega
  rw[List.take_of_length_le (by rw[xorL_length];exact Nat.le_refl _)]at rM
  have hxor:xorL ys15 ly=xorL (firstL msg dst n) (bI (firstL msg dst n) (domL dst) i):=xorL_congr (by rw[rF.row,List.take_of_length_le (by rw[rF.xl];exact Nat.le_refl _)]) (by rw[rL.row,List.take_of_length_le (by rw[rL.xl];exact Nat.le_refl _)])
  rw[hxor]at rM
  have hMl2:=rM.le
  have hMn2:=rM.len
  rintro x28 rfl
  refine ⟨⟨by omega,Nat.le_refl _,by omega⟩,?_⟩
  have t1:=rM.take1
  have t2:=rD.take1
  rw[Nat.mul_one]at t1 t2
  rw[t1,t2,rD.xl]
  refine ⟨⟨⟨rM.xl,rfl,rfl⟩,by omega⟩,?_⟩
  rintro ys29 cap30 n31 rJ2 ys32 rfl
  have hJ2:=rJ2.le
  have hJ2n:=rJ2.len
  have hJ2x:=rJ2.xl
  have hMl3:n31=32+1+(l2+1):=by
   rw[←hJ2x]
   simp only[List.length_append,domL_length,hl2,xorL_length]
   simp
  have t3:=rJ2.take1
  rw[Nat.mul_one]at t3
  rw[t3]
  refine ⟨by omega,⟨rJ2.xl,by omega,((xorL_bytes _ _).append bytes1).append hDb⟩,?_⟩
  rintro ys33 cap34 rB ys35 rfl
  have rB:Rw ys35 (bI (firstL msg dst n) (domL dst) (i+1)) 32 cap34:=rB
  have hBl:=rB.le
  have hBn:=rB.len
  refine ⟨⟨⟨rO.le,by rw[rO.len];omega⟩,nle (by omega),by omega,by omega⟩,fun cap36 ys37 e36=> ?_⟩
  have rO2:Rw ys37 (outN (firstL msg dst n) (domL dst) (i+1)) (32*i+32) cap36:=by
   refine rO.step (rB.xl) e36.1 e36.2.1 ?_
   have:=e36.2.2
   rw[List.drop_zero,List.drop_zero,rB.row]at this
   exact this
  rintro x38 hx38
  rw[wrap64 (by omega) (by omega)]at hx38
  refine ⟨(i+1,(ys37,cap36),(ys35,cap34)),⟨rO2,rB,by simp only;omega⟩,?_,by simp only;omega⟩
  repeat' apply And.intro
  all_goals first | trivial | rfl | (simp only;omega)
 simp only[decide_eq_false_iff_not]at hlt
 have hOl:=rO.le
 refine ⟨by omega,?_⟩
 have hE:expand msg dst n.toNat=(outN (firstL msg dst n) (domL dst) i).take n.toNat:=by
  rw[expand_eq (i:=i) (by omega) (by omega),hnn,Int.toNat_natCast]
 have rR:=rO.cut (m:=n.toNat) (by omega)
 rw[←hE]at rR
 exact hup.le (memL_sub [577,681,737,739] rfl (by decide) (by
  intro x hx
  simp only[List.mem_cons,List.not_mem_nil,or_false]at hx ⊢
  exact .inr (.inr (.inl hx)))) (hK _ _ rR)
theorem sen_walk (dst:List Int) (l2 c2:Nat) (n:Int) (K:SV→Mem→Prop) (hl2:dst.length=l2) (hb2:Bytes dst) (h2:l2≤65536) (hn:0≤n) (hn2:n≤65536) (hup:KUp K)
  (hK:∀ys cap,Rw ys (expand [] dst n.toNat) n.toNat cap→K (.slice 737 (.lit 0) (.sym n.toNat) (.sym cap)) (memL [(737,⟨false,.ints .u8 ys⟩)])):
  execF cxSE (uSE [] dst n) Tryz.f15 64 [.val (.slice none 0 0),.slice 1 (.lit 0) (.sym l2) (.sym c2),.int .i64 (.sym n)] (memL [(1,⟨true,.ints .u8 dst⟩)]) K:=by
 rw[vc_sen]
 obtain ⟨nn,hnn⟩:∃nn:Nat,n=(nn:Int):=⟨n.toNat,by omega⟩
 refine ⟨⟨by omega,nle (by omega),by omega,by omega⟩,fun cap0 ys1 e0=> ?_⟩
 have r0:=Rw.first hl2 e0
 rintro x2 rfl x3 rfl
 refine ⟨⟨r0.fits,nle (Nat.le_refl _),by omega,by omega⟩,fun cap4 ys5 e4=> ?_⟩
 have rD:=r0.next (zs:= [IntKind.u8.wrap ((l2:Nat):Int)]) (m:=1) rfl e4
 have hD:dst++ [IntKind.u8.wrap ((l2:Nat):Int)]=domL dst:=by unfold domL;rw[hl2]
 rw[hD]at rD
 have hDb:=domL_bytes hb2
 have hDl:=rD.le
 have hDn:=rD.len
 refine ⟨by omega,?_⟩
 rintro x6 rfl x7 rfl x8 rfl
 refine ⟨⟨by omega,nle (Nat.le_refl _),by omega⟩,?_⟩
 refine ⟨⟨⟨rfl,rfl,by rw[rD.take1,rD.xl]⟩,by omega⟩,?_⟩
 rintro ys9 cap10 n11 rJ ys12 rfl
 have hJ:=rJ.le
 have hJn:=rJ.len
 have hJx:=rJ.xl
 rw[rD.take1]at rJ hJx
 have hMl:n11=64+0+3+(l2+1):=by
  rw[←hJx]
  simp only[List.length_append,domL_length,hl2]
  simp
 refine ⟨by omega,⟨by rw[rJ.take1,rJ.xl],by omega,by
  rw[rJ.take1]
  exact ((((bytes0 64).drop 0).take 64).append ((bytes3.drop 0).take 3)).append hDb⟩,?_⟩
 rintro ys13 cap14 rF ys15 rfl
 rw[rJ.take1]at rF
 have rF:Rw ys15 (firstL [] dst n) 32 cap14:=by
  unfold firstL
  rw[List.append_nil]
  exact rF
 have hFl:=rF.le
 have hFn:=rF.len
 refine ⟨by omega,?_⟩
 refine ⟨⟨(0,([],0),(List.replicate 32 0,32)),⟨⟨rfl,Nat.le_refl _,rfl,rfl⟩,⟨by simp[bI],Nat.le_refl _,by simp,by simp[bI]⟩,by simp only;omega⟩,?_⟩,?_⟩
 ·repeat' apply And.intro
  all_goals first | trivial | rfl
 rintro ⟨i,⟨oy,oc⟩,⟨ly,lc⟩⟩ ⟨rO,rL,hi⟩ x18 rfl
 simp only at rO rL hi
 simp only
 have hLl:=rL.le
 have hLn:=rL.len
 refine ⟨fun hlt=> ?_,fun hlt=> ?_⟩
 ·simp only[decide_eq_true_eq]at hlt
  refine ⟨⟨(0,[],0),⟨⟨rfl,Nat.le_refl _,rfl,rfl⟩,by simp⟩,?_⟩,?_⟩
  ·repeat' apply And.intro
   all_goals first | trivial | rfl
  rintro ⟨k,my,mc⟩ ⟨rM,hk⟩
  simp only at rM hk
  simp only[Int.toNat_natCast,Nat.mul_one]
  refine ⟨fun hk1=> ?_,fun hk1=> ?_⟩
  ·simp only[decide_eq_true_eq]at hk1
   refine ⟨by omega,by omega,?_⟩
   rintro x21 rfl
   refine ⟨by omega,by omega,?_⟩
   rintro x22 rfl x23 hx23
   refine ⟨⟨⟨rM.le,by rw[rM.len];omega⟩,nle (Nat.le_refl _),by omega,by omega⟩,fun cap24 ys25 e24=> ?_⟩
   have rM2:=rM.next (zs:= [x23]) (m:=1) rfl (by simpa only[Nat.mul_one]using e24)
   rw[hx23,←xorL_take (by omega)]at rM2
   rintro x26 hx26
   rw[wrap64 (by omega) (by omega)]at hx26
   refine ⟨(k+1,ys25,cap24),⟨rM2,by simp only;omega⟩,?_,by simp only;omega⟩
   repeat' apply And.intro
   all_goals first | trivial | rfl | (simp only;omega)
  simp only[decide_eq_false_iff_not]at hk1
  obtain rfl:k=32:=by omega
  rw[List.take_of_length_le (by rw[xorL_length];exact Nat.le_refl _)]at rM
  have hxor:xorL ys15 ly=xorL (firstL [] dst n) (bI (firstL [] dst n) (domL dst) i):=xorL_congr (by rw[rF.row,List.take_of_length_le (by rw[rF.xl];exact Nat.le_refl _)]) (by rw[rL.row,List.take_of_length_le (by rw[rL.xl];exact Nat.le_refl _)])
  rw[hxor]at rM
  have hMl2:=rM.le
  have hMn2:=rM.len
  rintro x28 rfl
  refine ⟨⟨by omega,Nat.le_refl _,by omega⟩,?_⟩
  have t1:=rM.take1
  have t2:=rD.take1
  rw[Nat.mul_one]at t1 t2
  rw[t1,t2,rD.xl]
  refine ⟨⟨⟨rM.xl,rfl,rfl⟩,by omega⟩,?_⟩
  rintro ys29 cap30 n31 rJ2 ys32 rfl
  have hJ2:=rJ2.le
  have hJ2n:=rJ2.len
  have hJ2x:=rJ2.xl
  have hMl3:n31=32+1+(l2+1):=by
   rw[←hJ2x]
   simp only[List.length_append,domL_length,hl2,xorL_length]
   simp
  have t3:=rJ2.take1
  rw[Nat.mul_one]at t3
  rw[t3]
  refine ⟨by omega,⟨rJ2.xl,by omega,((xorL_bytes _ _).append bytes1).append hDb⟩,?_⟩
  rintro ys33 cap34 rB ys35 rfl
  have rB:Rw ys35 (bI (firstL [] dst n) (domL dst) (i+1)) 32 cap34:=rB
  have hBl:=rB.le
  have hBn:=rB.len
  refine ⟨⟨⟨rO.le,by rw[rO.len];omega⟩,nle (by omega),by omega,by omega⟩,fun cap36 ys37 e36=> ?_⟩
  have rO2:Rw ys37 (outN (firstL [] dst n) (domL dst) (i+1)) (32*i+32) cap36:=by
   refine rO.step (rB.xl) e36.1 e36.2.1 ?_
   have:=e36.2.2
   rw[List.drop_zero,List.drop_zero,rB.row]at this
   exact this
  rintro x38 hx38
  rw[wrap64 (by omega) (by omega)]at hx38
  refine ⟨(i+1,(ys37,cap36),(ys35,cap34)),⟨rO2,rB,by simp only;omega⟩,?_,by simp only;omega⟩
  repeat' apply And.intro
  all_goals first | trivial | rfl | (simp only;omega)
 simp only[decide_eq_false_iff_not]at hlt
 have hOl:=rO.le
 refine ⟨by omega,?_⟩
 have hE:expand [] dst n.toNat=(outN (firstL [] dst n) (domL dst) i).take n.toNat:=by
  rw[expand_eq (i:=i) (by omega) (by omega),hnn,Int.toNat_natCast]
 have rR:=rO.cut (m:=n.toNat) (by omega)
 rw[←hE]at rR
 exact hup.le (memL_sub [577,681,737,739] rfl (by decide) (by
  intro x hx
  simp only[List.mem_cons,List.not_mem_nil,or_false]at hx ⊢
  exact .inr (.inr (.inl hx)))) (hK _ _ rR)
end Go.Sx
namespace Go.Sx
open Go
theorem bxor_zero {x:Int} (h1:0≤x) (h2:x<256):bxor .u8 x 0=x:=by
 obtain ⟨n,rfl⟩:=Int.eq_ofNat_of_zero_le h1
 have:∀k:Fin 256,bxor .u8 ((k.val:Nat):Int) 0=((k.val:Nat):Int):=by decide +kernel
 exact this ⟨n,by omega⟩
theorem xorL_zero {f:List Int} (hl:f.length=32) (hb:Bytes f):xorL f (List.replicate 32 0)=f:=by
 apply List.ext_getElem
 ·rw[xorL_length,hl]
 ·intro i h1 h2
  have e0:(xorL f (List.replicate 32 0))[i]=bxor .u8 (f.getD i 0) ((List.replicate 32 0).getD i 0):=by
   simp[xorL]
  rw[e0]
  have e1:f.getD i 0=f[i]:=by simp[List.getD_eq_getElem?_getD,h2]
  have e2:(List.replicate 32 (0:Int)).getD i 0=0:=by
   rw[List.getD_eq_getElem?_getD,List.getElem?_replicate]
   split<;>rfl
  rw[e1,e2]
  exact bxor_zero (hb _ (List.getElem_mem h2)).1 (hb _ (List.getElem_mem h2)).2
theorem shr8 {n:Int} (h1:0≤n) (h2:n≤65536):shrv .i64 n 8=IntKind.i64.wrap (Int.tdiv n 256):=by
 have e:shrv .i64 n 8=n.fdiv 256:=rfl
 rw[e,Int.fdiv_eq_ediv_of_nonneg _ (by omega),Int.tdiv_eq_ediv_of_nonneg h1,wrap64 (by omega) (by omega)]
theorem res_step {res o b:List Int} {n j:Nat} (hl:res.length=n) (h:res.take (32*j)=o.take n) (ho:o.length=32*j) (hb:b.length=32) (hj:32*j<n):
  (splice res (32*j) (b.take (min 32 (min n (32*(j+1))-32*j)))).length=n∧
  (splice res (32*j) (b.take (min 32 (min n (32*(j+1))-32*j)))).take (32*(j+1))=(o++b).take n:=by
 generalize hq:b.take (min 32 (min n (32*(j+1))-32*j))=q
 have hql:q.length=min 32 (min n (32*(j+1))-32*j):=by rw[←hq,List.length_take];omega
 have hsl:(splice res (32*j) q).length=n:=by rw[splice_length (by omega),hl]
 refine ⟨hsl,?_⟩
 have hmid:=take_splice_mid (x:=res) (q:=q) (n:=32*j) (by omega)
 rw[h,List.take_of_length_le (l:=o) (by omega)]at hmid
 by_cases hc:32*(j+1)≤n
 ·have e1:q.length=32:=by omega
  have e2:q=b:=by rw[←hq,List.take_of_length_le (by omega)]
  rw[e1]at hmid
  rw[show 32*(j+1)=32*j+32 by omega,hmid,e2,List.take_of_length_le (by simp;omega)]
 ·have e1:32*j+q.length=n:=by omega
  rw[List.take_of_length_le (by omega)]
  rw[e1,List.take_of_length_le (by omega)]at hmid
  rw[hmid,List.take_append,List.take_of_length_le (l:=o) (by omega),ho,←hq]
  congr 2
  omega
end Go.Sx
namespace Go.Sx
open Go Go.Proofs
set_option maxRecDepth 100000
set_option maxHeartbeats 4000000
theorem ex_walk (msg dst:List Int) (l c l2 c2:Nat) (n:Int) (K:SV→Mem→Prop) (hl:msg.length=l) (hl2:dst.length=l2) (hc:l≤c) (hc2:l2≤c2) (hb:Bytes msg) (hb2:Bytes dst) (h1:l≤65536) (h2:l2≤65536) (hn:32≤n) (hn2:n≤65536) (hup:KUp K)
  (hK1:n>8160→∀s,K (.tup [.val (.slice none 0 0),.iface 126 (.ptr 633 (.lit 0))]) (memL [(633,⟨false,.cells [.val (.string s)]⟩)]))
  (hK2:n≤8160→l2>255→∀s,K (.tup [.val (.slice none 0 0),.iface 126 (.ptr 657 (.lit 0))]) (memL [(657,⟨false,.cells [.val (.string s)]⟩)]))
  (hK:n≤8160→l2≤255→∀ys,ys=expand msg dst n.toNat→K (.tup [.slice 1569 (.lit 0) (.sym n.toNat) (.sym n.toNat),.val .nilIface]) (memL [(1569,⟨false,.ints .u8 ys⟩)])):
  execF cxEX (uEX 17 msg dst n) Tryz.f47 64 [.slice 9 (.lit 0) (.sym l) (.sym c),.slice 17 (.lit 0) (.sym l2) (.sym c2),.int .i64 (.sym n)] (memL [(2,⟨true,.ints .u32 kL⟩),(9,⟨true,.ints .u8 msg⟩),(17,⟨true,.ints .u8 dst⟩)]) K:=by
 rw[vc_ex,take1 _ hl,take1 _ hl2]
 have hf:firstL msg dst n=sha (List.replicate 64 0++msg++ [IntKind.u8.wrap (shrv .i64 n 8),IntKind.u8.wrap n,0]++dst++ [IntKind.u8.wrap ((l2:Nat):Int)]):=by
  unfold firstL domL
  rw[shr8 (by omega) (by omega),hl2]
  simp only[List.append_assoc]
 have hfl:(firstL msg dst n).length=32:=rfl
 have hfb:Bytes (firstL msg dst n):=sha_bytes _
 have hdom:domL dst=dst++ [IntKind.u8.wrap ((l2:Nat):Int)]:=by unfold domL;rw[hl2]
 have hexp:∀j:Nat,n≤32*(j:Int)→32*(j:Int)<n+32→expand msg dst n.toNat=(outN (firstL msg dst n) (domL dst) j).take n.toNat:=fun j q1 q2=>by
  rw[expand_eq (i:=j) (by omega) (by omega),show ((n.toNat:Nat):Int)=n by omega]
 rintro ys0 rfl x1 rfl x2 hx2 x3 hx3
 rw[wrap64 (x:=n+32) (by omega) (by omega),wrap64 (by omega) (by omega)]at hx2
 rw[Int.tdiv_eq_ediv_of_nonneg (by omega),wrap64 (by omega) (by omega)]at hx3
 refine ⟨fun hbig=> ?_,fun hbig=> ?_⟩
 ·simp only[decide_eq_true_eq]at hbig
  exact hup.le (memL_sub [2,9,17,529,633] rfl (by decide) (by
   intro x hx
   simp only[List.mem_cons,List.not_mem_nil,or_false]at hx ⊢
   iterate 4 (apply Or.inr)
   exact hx)) (hK1 (by omega) _)
 simp only[decide_eq_false_iff_not]at hbig
 rintro x4 rfl
 refine ⟨fun hbig2=> ?_,fun hbig2=> ?_⟩
 ·simp only[decide_eq_true_eq]at hbig2
  exact hup.le (memL_sub [2,9,17,529,657] rfl (by decide) (by
   intro x hx
   simp only[List.mem_cons,List.not_mem_nil,or_false]at hx ⊢
   iterate 4 (apply Or.inr)
   exact hx)) (hK2 (by omega) (by omega) _)
 simp only[decide_eq_false_iff_not]at hbig2
 rintro x5 rfl x6 hx6
 rintro ys7 rfl
 refine ⟨by omega,?_⟩
 refine ⟨Nat.le_refl _,[],⟨rfl,Abs.empty rfl,((bytes0 64).drop 0).take 64,rfl,Nat.le_refl _,by omega,by simp⟩,?_⟩
 rintro x9 x10 x11 x12 a1 ys13 rfl
 have a1:Abs (List.replicate 64 0) x9 ys13 x11 x12:=a1
 refine ⟨by omega,_,⟨rfl,a1,hb,hl,hc,h1,by simp⟩,?_⟩
 rintro x15 x16 x17 x18 a2 ys19 rfl x20 rfl x21 rfl x22 rfl
 refine ⟨Nat.le_refl _,_,⟨rfl,a2,(bytes3.drop 0).take 3,rfl,Nat.le_refl _,by omega,by simp<;>omega⟩,?_⟩
 rintro x24 x25 x26 x27 a3 ys28 rfl
 have a3:Abs (List.replicate 64 0++msg++ [IntKind.u8.wrap (shrv .i64 n 8),IntKind.u8.wrap n,0]) x24 ys28 x26 x27:=a3
 refine ⟨by omega,_,⟨rfl,a3,hb2,hl2,hc2,h2,by simp<;>omega⟩,?_⟩
 rintro x30 x31 x32 x33 a4 ys34 rfl
 subst hx6
 refine ⟨Nat.le_refl _,_,⟨rfl,a4,(bytes1.drop 0).take 1,rfl,Nat.le_refl _,by omega,by simp<;>omega⟩,?_⟩
 rintro x36 x37 x38 x39 a5 ys40 rfl
 refine ⟨_,⟨rfl,a5,by simp<;>omega⟩,?_⟩
 rintro ys42 cap43 ⟨f1,f2,f3⟩ ys44 rfl
 have f1:ys44.take 32=firstL msg dst n:=f1.trans hf.symm
 rintro ys45 rfl
 have hx64:=a5.xl
 refine ⟨by omega,_,⟨rfl,Abs.empty hx64,(by rw[List.drop_zero,f1];exact hfb),(by rw[List.drop_zero,f1];rfl),f3,by omega,by simp⟩,?_⟩
 rintro x47 x48 x49 x50 b1 ys51 rfl
 rw[List.drop_zero,f1,List.nil_append]at b1
 refine ⟨Nat.le_refl _,_,⟨rfl,b1,by simp[Bytes],rfl,Nat.le_refl _,by omega,by rw[hfl];omega⟩,?_⟩
 rintro x53 x54 x55 x56 b2 ys57 rfl
 have b2:Abs (firstL msg dst n++ [1]) x53 ys57 x55 x56:=b2
 refine ⟨by omega,_,⟨rfl,b2,hb2,hl2,hc2,h2,by rw[List.length_append,hfl];simp⟩,?_⟩
 rintro x59 x60 x61 x62 b3 ys63 rfl
 refine ⟨Nat.le_refl _,_,⟨rfl,b3,(bytes1.drop 0).take 1,rfl,Nat.le_refl _,by omega,by rw[List.length_append,List.length_append,hfl];simp;omega⟩,?_⟩
 rintro x65 x66 x67 x68 b4 ys69 rfl
 refine ⟨_,⟨rfl,b4,by rw[List.length_append,List.length_append,List.length_append,hfl];simp;omega⟩,?_⟩
 rintro ys71 cap72 ⟨g1,g2,g3⟩ ys73 rfl
 have g1:ys73.take 32=bI (firstL msg dst n) (domL dst) 1:=by
  rw[g1]
  show sha _=sha _
  rw[show bI (firstL msg dst n) (domL dst) 0=List.replicate 32 0 from rfl,xorL_zero hfl hfb,hdom]
  simp only[List.append_assoc]
  rfl
 have rF:Rw ys44 (firstL msg dst n) 32 cap43:=⟨hfl,f3,f2,f1⟩
 have rB:Rw ys73 (bI (firstL msg dst n) (domL dst) 1) 32 cap72:=⟨bI_length _ _ _,g3,g2,g1⟩
 have hr0:=res_step (res:=List.replicate n.toNat 0) (o:=outN (firstL msg dst n) (domL dst) 0) (b:=bI (firstL msg dst n) (domL dst) 1) (n:=n.toNat) (j:=0) (by simp) (by simp[outN]) rfl (bI_length _ _ _) (by omega)
 rw[show min 32 (min n.toNat (32*(0+1))-32*0)=32 by omega,List.take_of_length_le (l:=bI (firstL msg dst n) (domL dst) 1) (by rw[bI_length];exact Nat.le_refl _)]at hr0
 rw[List.drop_zero,g1,Nat.mul_one]
 refine ⟨by omega,by omega,⟨by omega,by simp<;>omega⟩,?_⟩
 refine ⟨⟨⟨1,ys73,cap72,splice (List.replicate n.toNat 0) 0 (bI (firstL msg dst n) (domL dst) 1),x65,ys69,x67,x68⟩,⟨Nat.le_refl _,by simp only;omega,rB,by simp only;rw[hr0.1];omega,hr0.2,b4.xl⟩,?_⟩,?_⟩
 ·repeat' apply And.intro
  all_goals first | trivial | rfl
 clear hr0 g1 g2 g3 rB b4 b3 b2 b1 a5 a4 a3 a2 a1
 rintro ⟨j,b,bc,res,H,x,nx,len⟩ ⟨q1,q2,rB,q4,q5,q6⟩
 simp only at q1 q2 rB q4 q5 q6
 simp only
 have hFl:=rF.le
 have hFn:=rF.len
 have hBl:=rB.le
 have hBn:=rB.len
 refine ⟨fun hj=> ?_,fun hj=> ?_⟩
 ·simp only[decide_eq_true_eq]at hj
  rintro ys76 rfl
  refine ⟨by omega,?_⟩
  refine ⟨⟨(0,List.replicate 32 0),⟨by simp,by simp,by simp⟩,?_⟩,?_⟩
  ·repeat' apply And.intro
   all_goals first | trivial | rfl
  rintro ⟨k,w⟩ ⟨w1,w2,w3⟩
  simp only at w1 w2 w3
  simp only[Int.toNat_natCast,Nat.mul_one]
  refine ⟨fun hk=> ?_,fun hk=> ?_⟩
  ·simp only[decide_eq_true_eq]at hk
   refine ⟨by omega,by omega,?_⟩
   rintro x79 rfl
   refine ⟨by omega,by omega,?_⟩
   rintro x80 rfl x81 hx81
   refine ⟨by omega,by omega,?_⟩
   rintro x82 hx82
   rw[wrap64 (by omega) (by omega)]at hx82
   refine ⟨(k+1,w.set k x81),⟨by simp only[List.length_set];exact w1,?_,by simp only;omega⟩,?_,by simp only;omega⟩
   ·simp only
    rw[xorL_take (by omega),←w2,←hx81,List.take_add_one,List.take_set_of_le (Nat.le_refl _)]
    simp[show k<w.length by omega]
   ·repeat' apply And.intro
    all_goals first | trivial | rfl | (simp only;omega)
  simp only[decide_eq_false_iff_not]at hk
  obtain rfl:k=32:=by omega
  rw[List.take_of_length_le (by omega),List.take_of_length_le (by rw[xorL_length];exact Nat.le_refl _)]at w2
  have hxor:w=xorL (firstL msg dst n) (bI (firstL msg dst n) (domL dst) j):=by
   rw[w2]
   exact xorL_congr (by rw[rF.row,List.take_of_length_le (by rw[rF.xl];exact Nat.le_refl _)]) (by rw[rB.row,List.take_of_length_le (by rw[rB.xl];exact Nat.le_refl _)])
  have hwb:Bytes w:=by rw[hxor];exact xorL_bytes _ _
  have hw32:List.take 32 (List.drop 0 w)=w:=by rw[List.drop_zero,List.take_of_length_le (by omega)]
  rw[hw32]
  refine ⟨by omega,_,⟨by trivial,Abs.empty q6,hwb,w1,Nat.le_refl _,by omega,by simp⟩,?_⟩
  rintro x85 x86 x87 x88 c1 ys89 rfl x90 rfl
  rw[List.nil_append]at c1
  refine ⟨Nat.le_refl _,_,⟨by trivial,c1,(bytes1.drop 0).take 1,rfl,Nat.le_refl _,by omega,by rw[w1];omega⟩,?_⟩
  rintro x92 x93 x94 x95 c2' ys96 rfl
  refine ⟨by omega,_,⟨by trivial,c2',hb2,hl2,hc2,h2,by rw[List.length_append,w1];simp⟩,?_⟩
  rintro x98 x99 x100 x101 c3 ys102 rfl
  refine ⟨Nat.le_refl _,_,⟨by trivial,c3,(bytes1.drop 0).take 1,rfl,Nat.le_refl _,by omega,by rw[List.length_append,List.length_append,w1];simp;omega⟩,?_⟩
  rintro x104 x105 x106 x107 c4 ys108 rfl
  refine ⟨_,⟨by trivial,c4,by rw[List.length_append,List.length_append,List.length_append,w1];simp;omega⟩,?_⟩
  rintro ys110 cap111 ⟨g1,g2,g3⟩ ys112 rfl
  have g1:ys112.take 32=bI (firstL msg dst n) (domL dst) (j+1):=by
   rw[g1]
   show sha _=sha _
   rw[←hxor,hdom]
   simp only[List.append_assoc]
   rfl
  have rB2:Rw ys112 (bI (firstL msg dst n) (domL dst) (j+1)) 32 cap111:=⟨bI_length _ _ _,g3,g2,g1⟩
  rintro x113 hx113 x114 hx114 x115 hx115 x116 hx116 x117 hx117
  rw[wrap64 (by omega) (by omega)]at hx113
  rw[hx113,wrap64 (by omega) (by omega)]at hx114
  rw[wrap64 (by omega) (by omega)]at hx115
  have e114:x114.toNat=32*j:=by omega
  have e117:x117=((min n.toNat (32*(j+1)):Nat):Int):=by
   rw[hx117]
   split<;>omega
  have e117':x117.toNat=min n.toNat (32*(j+1)):=by omega
  have hres:=res_step (res:=res) (o:=outN (firstL msg dst n) (domL dst) j) (b:=bI (firstL msg dst n) (domL dst) (j+1)) (n:=n.toNat) (j:=j) (by omega) q5 (outN_length _ _ _) (bI_length _ _ _) (by omega)
  have htk:List.take (min 32 (x117.toNat-x114.toNat)) (List.drop 0 ys112)=(bI (firstL msg dst n) (domL dst) (j+1)).take (min 32 (min n.toNat (32*(j+1))-32*j)):=by
   rw[List.drop_zero,←g1,List.take_take,e117',e114]
   congr 1
   omega
  rw[htk,if_neg (by omega),e114]
  refine ⟨⟨⟨by omega,by omega⟩,by omega,by omega⟩,⟨by omega,by omega⟩,?_⟩
  rintro x118 hx118
  rw[wrap64 (by omega) (by omega)]at hx118
  refine ⟨⟨j+1,ys112,cap111,splice res (32*j) ((bI (firstL msg dst n) (domL dst) (j+1)).take (min 32 (min n.toNat (32*(j+1))-32*j))),x104,ys108,x106,x107⟩,⟨by simp only;omega,by simp only;omega,rB2,by simp only;rw[hres.1];omega,hres.2,c4.xl⟩,?_,by simp only;omega⟩
  repeat' apply And.intro
  all_goals first | trivial | rfl | (simp only;omega)
 simp only[decide_eq_false_iff_not]at hj
 rw[List.take_of_length_le (by omega)]at q5
 have hres:res=expand msg dst n.toNat:=by rw[q5,hexp j (by omega) (by omega)]
 exact hup.le (memL_sub [2,17,529,1177,1569,1641] rfl (by decide) (by
  intro x hx
  simp only[List.mem_cons,List.not_mem_nil,or_false]at hx ⊢
  exact .inr (.inr (.inr (.inr (.inl hx)))))) (hK (by omega) (by omega) _ hres)
theorem exn_walk (dst:List Int) (l2 c2:Nat) (n:Int) (K:SV→Mem→Prop) (hl2:dst.length=l2) (hc2:l2≤c2) (hb2:Bytes dst) (h2:l2≤65536) (hn:32≤n) (hn2:n≤65536) (hup:KUp K)
  (hK1:n>8160→∀s,K (.tup [.val (.slice none 0 0),.iface 126 (.ptr 633 (.lit 0))]) (memL [(633,⟨false,.cells [.val (.string s)]⟩)]))
  (hK2:n≤8160→l2>255→∀s,K (.tup [.val (.slice none 0 0),.iface 126 (.ptr 657 (.lit 0))]) (memL [(657,⟨false,.cells [.val (.string s)]⟩)]))
  (hK:n≤8160→l2≤255→∀ys,ys=expand [] dst n.toNat→K (.tup [.slice 1569 (.lit 0) (.sym n.toNat) (.sym n.toNat),.val .nilIface]) (memL [(1569,⟨false,.ints .u8 ys⟩)])):
  execF cxEX (uEX 9 [] dst n) Tryz.f47 64 [.val (.slice none 0 0),.slice 9 (.lit 0) (.sym l2) (.sym c2),.int .i64 (.sym n)] (memL [(2,⟨true,.ints .u32 kL⟩),(9,⟨true,.ints .u8 dst⟩)]) K:=by
 rw[vc_exn,take1 _ hl2]
 have hf:firstL [] dst n=sha (List.replicate 64 0++ [IntKind.u8.wrap (shrv .i64 n 8),IntKind.u8.wrap n,0]++dst++ [IntKind.u8.wrap ((l2:Nat):Int)]):=by
  unfold firstL domL
  rw[shr8 (by omega) (by omega),hl2]
  simp only[List.append_assoc,List.nil_append]
 have hfl:(firstL [] dst n).length=32:=rfl
 have hfb:Bytes (firstL [] dst n):=sha_bytes _
 have hdom:domL dst=dst++ [IntKind.u8.wrap ((l2:Nat):Int)]:=by unfold domL;rw[hl2]
 have hexp:∀j:Nat,n≤32*(j:Int)→32*(j:Int)<n+32→expand [] dst n.toNat=(outN (firstL [] dst n) (domL dst) j).take n.toNat:=fun j q1 q2=>by
  rw[expand_eq (i:=j) (by omega) (by omega),show ((n.toNat:Nat):Int)=n by omega]
 rintro ys0 rfl x1 rfl x2 hx2 x3 hx3
 rw[wrap64 (x:=n+32) (by omega) (by omega),wrap64 (by omega) (by omega)]at hx2
 rw[Int.tdiv_eq_ediv_of_nonneg (by omega),wrap64 (by omega) (by omega)]at hx3
 refine ⟨fun hbig=> ?_,fun hbig=> ?_⟩
 ·simp only[decide_eq_true_eq]at hbig
  exact hup.le (memL_sub [2,9,529,633] rfl (by decide) (by
   intro x hx
   simp only[List.mem_cons,List.not_mem_nil,or_false]at hx ⊢
   iterate 3 (apply Or.inr)
   exact hx)) (hK1 (by omega) _)
 simp only[decide_eq_false_iff_not]at hbig
 rintro x4 rfl
 refine ⟨fun hbig2=> ?_,fun hbig2=> ?_⟩
 ·simp only[decide_eq_true_eq]at hbig2
  exact hup.le (memL_sub [2,9,529,657] rfl (by decide) (by
   intro x hx
   simp only[List.mem_cons,List.not_mem_nil,or_false]at hx ⊢
   iterate 3 (apply Or.inr)
   exact hx)) (hK2 (by omega) (by omega) _)
 simp only[decide_eq_false_iff_not]at hbig2
 rintro x5 rfl x6 hx6
 rintro ys7 rfl
 refine ⟨by omega,?_⟩
 refine ⟨Nat.le_refl _,[],⟨rfl,Abs.empty rfl,((bytes0 64).drop 0).take 64,rfl,Nat.le_refl _,by omega,by simp⟩,?_⟩
 rintro x9 x10 x11 x12 a1 ys13 rfl
 have a1:Abs (List.replicate 64 0) x9 ys13 x11 x12:=a1
 refine ⟨_,⟨rfl,a1,by simp,by simp⟩,?_⟩
 rintro x15 x16 x17 x18 a2 ys19 rfl x20 rfl x21 rfl x22 rfl
 refine ⟨Nat.le_refl _,_,⟨rfl,a2,(bytes3.drop 0).take 3,rfl,Nat.le_refl _,by omega,by simp<;>omega⟩,?_⟩
 rintro x24 x25 x26 x27 a3 ys28 rfl
 have a3:Abs (List.replicate 64 0++ [IntKind.u8.wrap (shrv .i64 n 8),IntKind.u8.wrap n,0]) x24 ys28 x26 x27:=a3
 refine ⟨by omega,_,⟨rfl,a3,hb2,hl2,hc2,h2,by simp<;>omega⟩,?_⟩
 rintro x30 x31 x32 x33 a4 ys34 rfl
 subst hx6
 refine ⟨Nat.le_refl _,_,⟨rfl,a4,(bytes1.drop 0).take 1,rfl,Nat.le_refl _,by omega,by simp<;>omega⟩,?_⟩
 rintro x36 x37 x38 x39 a5 ys40 rfl
 refine ⟨_,⟨rfl,a5,by simp<;>omega⟩,?_⟩
 rintro ys42 cap43 ⟨f1,f2,f3⟩ ys44 rfl
 have f1:ys44.take 32=firstL [] dst n:=f1.trans hf.symm
 rintro ys45 rfl
 have hx64:=a5.xl
 refine ⟨by omega,_,⟨rfl,Abs.empty hx64,(by rw[List.drop_zero,f1];exact hfb),(by rw[List.drop_zero,f1];rfl),f3,by omega,by simp⟩,?_⟩
 rintro x47 x48 x49 x50 b1 ys51 rfl
 rw[List.drop_zero,f1,List.nil_append]at b1
 refine ⟨Nat.le_refl _,_,⟨rfl,b1,by simp[Bytes],rfl,Nat.le_refl _,by omega,by rw[hfl];omega⟩,?_⟩
 rintro x53 x54 x55 x56 b2 ys57 rfl
 have b2:Abs (firstL [] dst n++ [1]) x53 ys57 x55 x56:=b2
 refine ⟨by omega,_,⟨rfl,b2,hb2,hl2,hc2,h2,by rw[List.length_append,hfl];simp⟩,?_⟩
 rintro x59 x60 x61 x62 b3 ys63 rfl
 refine ⟨Nat.le_refl _,_,⟨rfl,b3,(bytes1.drop 0).take 1,rfl,Nat.le_refl _,by omega,by rw[List.length_append,List.length_append,hfl];simp;omega⟩,?_⟩
 rintro x65 x66 x67 x68 b4 ys69 rfl
 refine ⟨_,⟨rfl,b4,by rw[List.length_append,List.length_append,List.length_append,hfl];simp;omega⟩,?_⟩
 rintro ys71 cap72 ⟨g1,g2,g3⟩ ys73 rfl
 have g1:ys73.take 32=bI (firstL [] dst n) (domL dst) 1:=by
  rw[g1]
  show sha _=sha _
  rw[show bI (firstL [] dst n) (domL dst) 0=List.replicate 32 0 from rfl,xorL_zero hfl hfb,hdom]
  simp only[List.append_assoc]
  rfl
 have rF:Rw ys44 (firstL [] dst n) 32 cap43:=⟨hfl,f3,f2,f1⟩
 have rB:Rw ys73 (bI (firstL [] dst n) (domL dst) 1) 32 cap72:=⟨bI_length _ _ _,g3,g2,g1⟩
 have hr0:=res_step (res:=List.replicate n.toNat 0) (o:=outN (firstL [] dst n) (domL dst) 0) (b:=bI (firstL [] dst n) (domL dst) 1) (n:=n.toNat) (j:=0) (by simp) (by simp[outN]) rfl (bI_length _ _ _) (by omega)
 rw[show min 32 (min n.toNat (32*(0+1))-32*0)=32 by omega,List.take_of_length_le (l:=bI (firstL [] dst n) (domL dst) 1) (by rw[bI_length];exact Nat.le_refl _)]at hr0
 rw[List.drop_zero,g1,Nat.mul_one]
 refine ⟨by omega,by omega,⟨by omega,by simp<;>omega⟩,?_⟩
 refine ⟨⟨⟨1,ys73,cap72,splice (List.replicate n.toNat 0) 0 (bI (firstL [] dst n) (domL dst) 1),x65,ys69,x67,x68⟩,⟨Nat.le_refl _,by simp only;omega,rB,by simp only;rw[hr0.1];omega,hr0.2,b4.xl⟩,?_⟩,?_⟩
 ·repeat' apply And.intro
  all_goals first | trivial | rfl
 clear hr0 g1 g2 g3 rB b4 b3 b2 b1 a5 a4 a3 a2 a1
 rintro ⟨j,b,bc,res,H,x,nx,len⟩ ⟨q1,q2,rB,q4,q5,q6⟩
 simp only at q1 q2 rB q4 q5 q6
 simp only
 have hFl:=rF.le
 have hFn:=rF.len
 have hBl:=rB.le
 have hBn:=rB.len
 refine ⟨fun hj=> ?_,fun hj=> ?_⟩
 ·simp only[decide_eq_true_eq]at hj
  rintro ys76 rfl
  refine ⟨by omega,?_⟩
  refine ⟨⟨(0,List.replicate 32 0),⟨by simp,by simp,by simp⟩,?_⟩,?_⟩
  ·repeat' apply And.intro
   all_goals first | trivial | rfl
  rintro ⟨k,w⟩ ⟨w1,w2,w3⟩
  simp only at w1 w2 w3
  simp only[Int.toNat_natCast,Nat.mul_one]
  refine ⟨fun hk=> ?_,fun hk=> ?_⟩
  ·simp only[decide_eq_true_eq]at hk
   refine ⟨by omega,by omega,?_⟩
   rintro x79 rfl
   refine ⟨by omega,by omega,?_⟩
   rintro x80 rfl x81 hx81
   refine ⟨by omega,by omega,?_⟩
   rintro x82 hx82
   rw[wrap64 (by omega) (by omega)]at hx82
   refine ⟨(k+1,w.set k x81),⟨by simp only[List.length_set];exact w1,?_,by simp only;omega⟩,?_,by simp only;omega⟩
   ·simp only
    rw[xorL_take (by omega),←w2,←hx81,List.take_add_one,List.take_set_of_le (Nat.le_refl _)]
    simp[show k<w.length by omega]
   ·repeat' apply And.intro
    all_goals first | trivial | rfl | (simp only;omega)
  simp only[decide_eq_false_iff_not]at hk
  obtain rfl:k=32:=by omega
  rw[List.take_of_length_le (by omega),List.take_of_length_le (by rw[xorL_length];exact Nat.le_refl _)]at w2
  have hxor:w=xorL (firstL [] dst n) (bI (firstL [] dst n) (domL dst) j):=by
   rw[w2]
   exact xorL_congr (by rw[rF.row,List.take_of_length_le (by rw[rF.xl];exact Nat.le_refl _)]) (by rw[rB.row,List.take_of_length_le (by rw[rB.xl];exact Nat.le_refl _)])
  have hwb:Bytes w:=by rw[hxor];exact xorL_bytes _ _
  have hw32:List.take 32 (List.drop 0 w)=w:=by rw[List.drop_zero,List.take_of_length_le (by omega)]
  rw[hw32]
  refine ⟨by omega,_,⟨by trivial,Abs.empty q6,hwb,w1,Nat.le_refl _,by omega,by simp⟩,?_⟩
  rintro x85 x86 x87 x88 c1 ys89 rfl x90 rfl
  rw[List.nil_append]at c1
  refine ⟨Nat.le_refl _,_,⟨by trivial,c1,(bytes1.drop 0).take 1,rfl,Nat.le_refl _,by omega,by rw[w1];omega⟩,?_⟩
  rintro x92 x93 x94 x95 c2' ys96 rfl
  refine ⟨by omega,_,⟨by trivial,c2',hb2,hl2,hc2,h2,by rw[List.length_append,w1];simp⟩,?_⟩
  rintro x98 x99 x100 x101 c3 ys102 rfl
  refine ⟨Nat.le_refl _,_,⟨by trivial,c3,(bytes1.drop 0).take 1,rfl,Nat.le_refl _,by omega,by rw[List.length_append,List.length_append,w1];simp;omega⟩,?_⟩
  rintro x104 x105 x106 x107 c4 ys108 rfl
  refine ⟨_,⟨by trivial,c4,by rw[List.length_append,List.length_append,List.length_append,w1];simp;omega⟩,?_⟩
  rintro ys110 cap111 ⟨g1,g2,g3⟩ ys112 rfl
  have g1:ys112.take 32=bI (firstL [] dst n) (domL dst) (j+1):=by
   rw[g1]
   show sha _=sha _
   rw[←hxor,hdom]
   simp only[List.append_assoc]
   rfl
  have rB2:Rw ys112 (bI (firstL [] dst n) (domL dst) (j+1)) 32 cap111:=⟨bI_length _ _ _,g3,g2,g1⟩
  rintro x113 hx113 x114 hx114 x115 hx115 x116 hx116 x117 hx117
  rw[wrap64 (by omega) (by omega)]at hx113
  rw[hx113,wrap64 (by omega) (by omega)]at hx114
  rw[wrap64 (by omega) (by omega)]at hx115
  have e114:x114.toNat=32*j:=by omega
  have e117:x117=((min n.toNat (32*(j+1)):Nat):Int):=by
   rw[hx117]
   split<;>omega
  have e117':x117.toNat=min n.toNat (32*(j+1)):=by omega
  have hres:=res_step (res:=res) (o:=outN (firstL [] dst n) (domL dst) j) (b:=bI (firstL [] dst n) (domL dst) (j+1)) (n:=n.toNat) (j:=j) (by omega) q5 (outN_length _ _ _) (bI_length _ _ _) (by omega)
  have htk:List.take (min 32 (x117.toNat-x114.toNat)) (List.drop 0 ys112)=(bI (firstL [] dst n) (domL dst) (j+1)).take (min 32 (min n.toNat (32*(j+1))-32*j)):=by
   rw[List.drop_zero,←g1,List.take_take,e117',e114]
   congr 1
   omega
  rw[htk,if_neg (by omega),e114]
  refine ⟨⟨⟨by omega,by omega⟩,by omega,by omega⟩,⟨by omega,by omega⟩,?_⟩
  rintro x118 hx118
  rw[wrap64 (by omega) (by omega)]at hx118
  refine ⟨⟨j+1,ys112,cap111,splice res (32*j) ((bI (firstL [] dst n) (domL dst) (j+1)).take (min 32 (min n.toNat (32*(j+1))-32*j))),x104,ys108,x106,x107⟩,⟨by simp only;omega,by simp only;omega,rB2,by simp only;rw[hres.1];omega,hres.2,c4.xl⟩,?_,by simp only;omega⟩
  repeat' apply And.intro
  all_goals first | trivial | rfl | (simp only;omega)
 simp only[decide_eq_false_iff_not]at hj
 rw[List.take_of_length_le (by omega)]at q5
 have hres:res=expand [] dst n.toNat:=by rw[q5,hexp j (by omega) (by omega)]
 exact hup.le (memL_sub [2,9,529,1177,1569,1641] rfl (by decide) (by
  intro x hx
  simp only[List.mem_cons,List.not_mem_nil,or_false]at hx ⊢
  exact .inr (.inr (.inr (.inr (.inl hx)))))) (hK (by omega) (by omega) _ hres)
end Go.Sx
namespace Go.Sx
open Go Go.Proofs
set_option maxRecDepth 100000
theorem vc_clone (xs:List Int) (l c:Nat) (K:SV→Mem→Prop):(execF cx0 u0 Tryz.f11 64 [.slice 1 (.lit 0) (.sym l) (.sym c)] (memL [(1,⟨true,.ints .u8 xs⟩)]) K)=((((0:Nat)≤(0:Nat)∧(0:Nat)≤(0:Nat))∧Nat.le (0+l *
 1) xs.length∧(0+l)*1≤549755813888∧0+l≤549755813888)∧∀(a:Nat) (b:List Int),0+l≤a∧b.length=a*1∧List.take ((0+l)*1) b=List.take 0 (List.drop 0 [])++List.take (l*1) (List.drop 0 xs)→K (.slice 553
 (.lit 0) (.sym l) (.sym a)) (memL [(1,⟨true,.ints .u8 xs⟩),(553,⟨false,.ints .u8 b⟩)])):=by kernel_rfl
theorem vc_clonen (K:SV→Mem→Prop):(execF cx0 u0 Tryz.f11 64 [.val (.slice none 0 0)] (memL []) K)=K (.val (.slice none 0 0)) Tr.leaf:=by kernel_rfl
def gClone:G0:=fun args l K=>
 match args,l with
 | [.slice 1 (.lit 0) (.sym n) (.sym _)],[(1,⟨true,.ints .u8 xs⟩)]=>
  (xs.length=n∧n≤2 ^ 39)∧∀ys cap,Rw ys xs n cap→K (.slice 553 (.lit 0) (.sym n) (.sym cap)) (memL [(553,⟨false,.ints .u8 ys⟩)])
 | [.val (.slice none 0 0)],[]=>K (.val (.slice none 0 0)) (memL [])
 | _,_=>False
theorem clone_good:Good gClone:=by
 constructor
 ·intro args l K K' hk h
  unfold gClone at h ⊢
  split at h
  ·exact ⟨h.1,fun ys cap hy=>hk _ _ (h.2 ys cap hy)⟩
  ·exact hk _ _ h
  ·exact h.elim
 ·intro args l K h
  unfold gClone at h
  split at h
  ·obtain ⟨⟨rfl,_⟩,h2⟩:=h
   exact ⟨_,_,h2 _ _ (Rw.self _)⟩
  ·exact ⟨_,_,h⟩
  ·exact h.elim
theorem clone_ok (args:List SV) (l:List (Nat×Reg)) (K:SV→Mem→Prop) (hup:KUp K) (h:gClone args l K):∃U,execF cx0 U Tryz.f11 64 args (memL l) K:=by
 refine ⟨u0,?_⟩
 unfold gClone at h
 split at h
 ·obtain ⟨⟨h1,h2⟩,h3⟩:=h
  rw[vc_clone]
  refine ⟨⟨by omega,nle (by omega),by omega,by omega⟩,fun cap ys e=> ?_⟩
  exact hup.le (memL_sub [1,553] rfl (by decide) (by
   intro x hx
   simp only[List.mem_cons,List.not_mem_nil,or_false]at hx ⊢
   exact .inr hx)) (h3 _ _ (Rw.first h1 e))
 ·rw[vc_clonen]
  exact h
 ·exact h.elim
def cClone:Ef Tryz.prog:=mkE mixed 11 Tryz.func11 (by decide) (by kernel_rfl) [] [.sl 1 true] gClone clone_good clone_ok
def exK (msg dst:List Int) (n:Int) (K:SV→Mem→Prop):Prop:=
 (n>8160→∀s,K (.tup [.val (.slice none 0 0),.iface 126 (.ptr 633 (.lit 0))]) (memL [(633,⟨false,.cells [.val (.string s)]⟩)]))∧
 (n≤8160→dst.length>255→∀s,K (.tup [.val (.slice none 0 0),.iface 126 (.ptr 657 (.lit 0))]) (memL [(657,⟨false,.cells [.val (.string s)]⟩)]))∧
 (n≤8160→dst.length≤255→∀ys,ys=expand msg dst n.toNat→K (.tup [.slice 1569 (.lit 0) (.sym n.toNat) (.sym n.toNat),.val .nilIface]) (memL [(1569,⟨false,.ints .u8 ys⟩)]))
def gEX:G0:=fun args l K=>
 match args,l with
 | [.slice 9 (.lit 0) (.sym n1) (.sym c1),.slice 17 (.lit 0) (.sym n2) (.sym c2),.int .i64 (.sym n)],[(2,⟨true,.ints .u32 ks⟩),(9,⟨true,.ints .u8 msg⟩),(17,⟨true,.ints .u8 dst⟩)]=>
  (ks=kL∧msg.length=n1∧dst.length=n2∧n1≤c1∧n2≤c2∧Bytes msg∧Bytes dst∧n1≤65536∧n2≤65536∧32≤n∧n≤65536)∧exK msg dst n K
 | [.val (.slice none 0 0),.slice 9 (.lit 0) (.sym n2) (.sym c2),.int .i64 (.sym n)],[(2,⟨true,.ints .u32 ks⟩),(9,⟨true,.ints .u8 dst⟩)]=>
  (ks=kL∧dst.length=n2∧n2≤c2∧Bytes dst∧n2≤65536∧32≤n∧n≤65536)∧exK [] dst n K
 | _,_=>False
theorem exK_mono {msg dst:List Int} {n:Int} {K K':SV→Mem→Prop} (hk:∀v m,K v m→K' v m) (h:exK msg dst n K):exK msg dst n K':=
 ⟨fun a s=>hk _ _ (h.1 a s),fun a b s=>hk _ _ (h.2.1 a b s),fun a b ys e=>hk _ _ (h.2.2 a b ys e)⟩
theorem exK_live {msg dst:List Int} {n:Int} {K:SV→Mem→Prop} (h:exK msg dst n K):∃v m,K v m:=by
 by_cases h1:n>8160
 ·exact ⟨_,_,h.1 h1 .empty⟩
 ·by_cases h2:dst.length>255
  ·exact ⟨_,_,h.2.1 (by omega) h2 .empty⟩
  ·exact ⟨_,_,h.2.2 (by omega) (by omega) _ rfl⟩
theorem ex_good:Good gEX:=by
 constructor
 ·intro args l K K' hk h
  unfold gEX at h ⊢
  split at h
  ·exact ⟨h.1,exK_mono hk h.2⟩
  ·exact ⟨h.1,exK_mono hk h.2⟩
  ·exact h.elim
 ·intro args l K h
  unfold gEX at h
  split at h
  ·exact exK_live h.2
  ·exact exK_live h.2
  ·exact h.elim
theorem ex_ok (args:List SV) (l:List (Nat×Reg)) (K:SV→Mem→Prop) (hup:KUp K) (h:gEX args l K):∃U,execF cxEX U Tryz.f47 64 args (memL l) K:=by
 unfold gEX at h
 split at h
 ·rename_i n1 c1 n2 c2 n ks msg dst
  obtain ⟨⟨hk,h1,h2,h3,h4,h5,h6,h7,h8,h9,h10⟩,ha,hb,hc⟩:=h
  subst hk
  subst h2
  exact ⟨uEX 17 msg dst n,ex_walk msg dst n1 c1 _ c2 n K h1 rfl h3 h4 h5 h6 h7 h8 h9 h10 hup ha hb hc⟩
 ·rename_i n2 c2 n ks dst
  obtain ⟨⟨hk,h2,h4,h6,h8,h9,h10⟩,ha,hb,hc⟩:=h
  subst hk
  subst h2
  exact ⟨uEX 9 [] dst n,exn_walk dst _ c2 n K rfl h4 h6 h8 h9 h10 hup ha hb hc⟩
 ·exact h.elim
def cEX:Ef Tryz.prog:=mkE mixed 47 Tryz.func47 (by decide) (by kernel_rfl) [1] [.sl 1 true,.sl 1 true,.num] gEX ex_good ex_ok
def gSE:G0:=fun args l K=>
 match args,l with
 | [.slice 1 (.lit 0) (.sym n1) (.sym _),.slice 9 (.lit 0) (.sym n2) (.sym _),.int .i64 (.sym n)],[(1,⟨true,.ints .u8 msg⟩),(9,⟨true,.ints .u8 dst⟩)]=>
  (msg.length=n1∧dst.length=n2∧Bytes msg∧Bytes dst∧n1≤65536∧n2≤65536∧0≤n∧n≤65536)∧
   ∀ys cap,Rw ys (expand msg dst n.toNat) n.toNat cap→K (.slice 737 (.lit 0) (.sym n.toNat) (.sym cap)) (memL [(737,⟨false,.ints .u8 ys⟩)])
 | [.val (.slice none 0 0),.slice 1 (.lit 0) (.sym n2) (.sym _),.int .i64 (.sym n)],[(1,⟨true,.ints .u8 dst⟩)]=>
  (dst.length=n2∧Bytes dst∧n2≤65536∧0≤n∧n≤65536)∧
   ∀ys cap,Rw ys (expand [] dst n.toNat) n.toNat cap→K (.slice 737 (.lit 0) (.sym n.toNat) (.sym cap)) (memL [(737,⟨false,.ints .u8 ys⟩)])
 | _,_=>False
theorem Rw.made {xs:List Int} {n:Nat} (h:xs.length=n):Rw xs xs n n:=⟨h,Nat.le_refl _,h,List.take_of_length_le (by omega)⟩
theorem se_good:Good gSE:=by
 constructor
 ·intro args l K K' hk h
  unfold gSE at h ⊢
  split at h
  ·exact ⟨h.1,fun ys cap hy=>hk _ _ (h.2 ys cap hy)⟩
  ·exact ⟨h.1,fun ys cap hy=>hk _ _ (h.2 ys cap hy)⟩
  ·exact h.elim
 ·intro args l K h
  unfold gSE at h
  split at h
  ·exact ⟨_,_,h.2 _ _ (Rw.made (expand_length _ _ _))⟩
  ·exact ⟨_,_,h.2 _ _ (Rw.made (expand_length _ _ _))⟩
  ·exact h.elim
theorem se_ok (args:List SV) (l:List (Nat×Reg)) (K:SV→Mem→Prop) (hup:KUp K) (h:gSE args l K):∃U,execF cxSE U Tryz.f15 64 args (memL l) K:=by
 unfold gSE at h
 split at h
 ·rename_i n1 c1 n2 c2 n msg dst
  obtain ⟨⟨h1,h2,h5,h6,h7,h8,h9,h10⟩,hc⟩:=h
  exact ⟨uSE msg dst n,se_walk msg dst n1 c1 n2 c2 n K h1 h2 h5 h6 h7 h8 h9 h10 hup hc⟩
 ·rename_i n2 c2 n dst
  obtain ⟨⟨h2,h6,h8,h9,h10⟩,hc⟩:=h
  exact ⟨uSE [] dst n,sen_walk dst n2 c2 n K h2 h6 h8 h9 h10 hup hc⟩
 ·exact h.elim
def cSE:Ef Tryz.prog:=mkNw mixed 15 Tryz.func15 (by decide) (by kernel_rfl) [] [.sl 1 true,.sl 1 true,.num] gSE se_good se_ok
def cxFH:Cx Tryz.prog:= { rds:= [],efs:= [cEX,cSY],eqs:= [] }
def elW (x:Nat):List Int:= [lm x 0,lm x 1,lm x 2,lm x 3]
def hfW (f:Nat→Nat):Nat→List Int
 | 0=> []
 | n+1=>hfW f n++elW (f n)
def chN (ys:List Int) (j:Nat):Nat:=beN ((ys.drop (48*j)).take 48)
def liFH (ys:List Int) (n:Nat):LI where
 ι:=Nat×List Int
 keep:= [9,11,27]
 keepR:= [2,577]
 F:=fun s=>⟨[(28,i64n s.1)],[(649,⟨false,.ints .u64 s.2⟩)]⟩
 I:=fun _ s=>s.1≤n∧s.2.length=n*4∧s.2.take (4*s.1)=hfW (fun j=>mont (chN ys j)) s.1
 μ:=fun s=>n-s.1
def uFH (ys:List Int) (n:Nat):Nat→Lp:=fun b=>match b with | 0=> .inv (liFH ys n) | _=> .un 0
theorem vc_fh (ex msg dst:List Int) (l c l2 c2:Nat) (n:Int) (K:SV→Mem→Prop):(execF cxFH (uFH ex n.toNat) Tryz.f22 64 [.slice 9 (.lit 0) (.sym l) (.sym c),.slice 17 (.lit 0) (.sym l2) (.sym c2),.int .i64 (.sym n)] (memL [(2,
 ⟨true,.ints .u32 kL⟩),(9,⟨true,.ints .u8 msg⟩),(17,⟨true,.ints .u8 dst⟩)]) K)=(∀a,a=IntKind.wrap IntKind.i64 (n*48)→(0+l*1≤msg.length∧0+l2*1≤dst.length)∧(kL=kL∧List.length (List.take (l*1) (List.drop
 0 msg))=l∧List.length (List.take (l2*1) (List.drop 0 dst))=l2∧l≤c∧l2≤c2∧Bytes (List.take (l*1) (List.drop 0 msg))∧Bytes (List.take (l2*1) (List.drop 0 dst))∧l≤65536∧l2≤65536∧32≤a∧a≤65536)∧(a>8160
 →∀p:ByteArray,K (.tup [.val (.slice none 0 0),.iface 126 (.ptr 577 (.lit 0))]) (memL [(2,⟨true,.ints .u32 kL⟩),(9,⟨true,.ints .u8 msg⟩),(17,⟨true,.ints .u8 dst⟩),(577,⟨false,.cells [.val (.string p)]⟩)]))∧(a≤8160→
 (List.length (List.take (l2*1) (List.drop 0 dst))>255→∀q:ByteArray,K (.tup [.val (.slice none 0 0),.iface 126 (.ptr 577 (.lit 0))]) (memL [(2,⟨true,.ints .u32 kL⟩),(9,⟨true,.ints .u8 msg⟩),(17,⟨true,.ints .u8 dst⟩),(577,
 ⟨false,.cells [.val (.string q)]⟩)])))∧(a≤8160→(List.length (List.take (l2*1) (List.drop 0 dst))≤255→∀j:List Int,j=expand (List.take (l*1) (List.drop 0 msg)) (List.take (l2*1) (List.drop 0 dst)) (Int.toNat a)→∀f:
 List Int,f=j→(0≤n∧n*32≤140737488355328∧n≤140737488355328)∧((∃i:Prod Nat (List Int),(Prod.fst i≤Int.toNat n∧List.length (Prod.snd i)=Int.toNat n*4∧List.take (4*Prod.fst i) (Prod.snd i)=hfW (fun ( r:Nat
 )=>mont (chN ex r)) (Prod.fst i))∧((Int.toNat a=Int.toNat a∧Int.toNat a=Int.toNat a)∧(Int.toNat n=Int.toNat n∧Int.toNat n=Int.toNat n)∧n=n∧0=((Prod.fst i:Nat):Int))∧kL=kL∧f=f∧List.replicate
 (Int.toNat n*4) (0:Int)=Prod.snd i)∧∀b:Prod Nat (List Int),Prod.fst b≤Int.toNat n∧List.length (Prod.snd b)=Int.toNat n*4∧List.take (4*Prod.fst b) (Prod.snd b)=hfW (fun ( s:Nat )=>mont (chN ex s)) (Prod.fst b)
 →(decide (((Prod.fst b:Nat):Int)<n)=true→((0≤((Prod.fst b:Nat):Int)∧((Prod.fst b:Nat):Int)<((Int.toNat n:Nat):Int))∧∀d,d=IntKind.wrap IntKind.i64 (((Prod.fst b:Nat):Int)*48)→∀k,k=IntKind.wrap
 IntKind.i64 (((Prod.fst b:Nat):Int)+1)→∀e,e=IntKind.wrap IntKind.i64 (k*48)→((0≤e∧e≤((Int.toNat a:Nat):Int))∧0≤d∧d≤((Int.toNat e:Nat):Int))∧(Int.toNat ((Prod.fst b:Nat):Int)*4+4≤List.length
 (Prod.snd b)∧(if Int.toNat a=Int.toNat d then (0:Nat)else Int.toNat d*1)+(Int.toNat e-Int.toNat d)*1≤f.length)∧((List.length (List.take ((Int.toNat e-Int.toNat d)*1) (List.drop (if Int.toNat a=Int.toNat d then (0:
 Nat)else Int.toNat d*1) f))=Int.toNat e-Int.toNat d∧Int.toNat e-Int.toNat d≠32∧Int.toNat e-Int.toNat d<1099511627776∧Bytes (List.take ((Int.toNat e-Int.toNat d)*1) (List.drop (if Int.toNat a=Int.toNat d then (0:
 Nat)else Int.toNat d*1) f)))∧∀g:Nat,g=mont (beN (List.take ((Int.toNat e-Int.toNat d)*1) (List.drop (if Int.toNat a=Int.toNat d then (0:Nat)else Int.toNat d*1) f)))→(Int.toNat ((Prod.fst b:Nat):Int)*4 +
 List.length [lm g 0,lm g 1,lm g 2,lm g 3]≤List.length (Prod.snd b)∧∀m:List Int,m=splice (Prod.snd b) (Int.toNat ((Prod.fst b:Nat):Int)*4) [lm g 0,lm g 1,lm g 2,lm g 3]→∀o,o=IntKind.wrap IntKind.i64 (((Prod.fst b
 :Nat):Int)+1)→∃h:Prod Nat (List Int),(Prod.fst h≤Int.toNat n∧List.length (Prod.snd h)=Int.toNat n*4∧List.take (4*Prod.fst h) (Prod.snd h)=hfW (fun ( t:Nat )=>mont (chN ex t)) (Prod.fst h))∧(((Int.toNat a=
 Int.toNat a∧Int.toNat a=Int.toNat a)∧(Int.toNat n=Int.toNat n∧Int.toNat n=Int.toNat n)∧n=n∧o=((Prod.fst h:Nat):Int))∧kL=kL∧f=f∧m=Prod.snd h)∧Int.toNat n-Prod.fst h<Int.toNat n-Prod.fst b))))∧
 (decide (((Prod.fst b:Nat):Int)<n)=false→K (.tup [.slice 649 (.lit 0) (.sym (Int.toNat n)) (.sym (Int.toNat n)),.val .nilIface]) (memL [(2,⟨true,.ints .u32 kL⟩),(577,⟨false,.ints .u8 f⟩),(649,⟨false,.ints .u64 (Prod.snd
 b)⟩)])))))):=by kernel_rfl
theorem vc_fhn (ex dst:List Int) (l2 c2:Nat) (n:Int) (K:SV→Mem→Prop):(execF cxFH (uFH ex n.toNat) Tryz.f22 64 [.val (.slice none 0 0),.slice 9 (.lit 0) (.sym l2) (.sym c2),.int .i64 (.sym n)] (memL [(2,⟨true,.ints .u32
 kL⟩),(9,⟨true,.ints .u8 dst⟩)]) K)=(∀a,a=IntKind.wrap IntKind.i64 (n*48)→0+l2*1≤dst.length∧(kL=kL∧List.length (List.take (l2*1) (List.drop 0 dst))=l2∧l2≤c2∧Bytes (List.take (l2*1) (List.drop 0 dst))∧
 l2≤65536∧32≤a∧a≤65536)∧(a>8160→∀m:ByteArray,K (.tup [.val (.slice none 0 0),.iface 126 (.ptr 577 (.lit 0))]) (memL [(2,⟨true,.ints .u32 kL⟩),(9,⟨true,.ints .u8 dst⟩),(577,⟨false,.cells [.val (.string m)]⟩)]))∧
 (a≤8160→(List.length (List.take (l2*1) (List.drop 0 dst))>255→∀o:ByteArray,K (.tup [.val (.slice none 0 0),.iface 126 (.ptr 577 (.lit 0))]) (memL [(2,⟨true,.ints .u32 kL⟩),(9,⟨true,.ints .u8 dst⟩),(577,⟨false,.cells
 [.val (.string o)]⟩)])))∧(a≤8160→(List.length (List.take (l2*1) (List.drop 0 dst))≤255→∀i:List Int,i=expand [] (List.take (l2*1) (List.drop 0 dst)) (Int.toNat a)→∀e:List Int,e=i→(0≤n∧n*32≤
 140737488355328∧n≤140737488355328)∧((∃h:Prod Nat (List Int),(Prod.fst h≤Int.toNat n∧List.length (Prod.snd h)=Int.toNat n*4∧List.take (4*Prod.fst h) (Prod.snd h)=hfW (fun ( p:Nat )=>mont (chN ex p)) (Prod.fst h))
 ∧((Int.toNat a=Int.toNat a∧Int.toNat a=Int.toNat a)∧(Int.toNat n=Int.toNat n∧Int.toNat n=Int.toNat n)∧n=n∧0=((Prod.fst h:Nat):Int))∧kL=kL∧e=e∧List.replicate (Int.toNat n*4) (0:Int)=Prod.snd h)∧∀
 b:Prod Nat (List Int),Prod.fst b≤Int.toNat n∧List.length (Prod.snd b)=Int.toNat n*4∧List.take (4*Prod.fst b) (Prod.snd b)=hfW (fun ( q:Nat )=>mont (chN ex q)) (Prod.fst b)→(decide (((Prod.fst b:Nat):Int)<n)=
 true→((0≤((Prod.fst b:Nat):Int)∧((Prod.fst b:Nat):Int)<((Int.toNat n:Nat):Int))∧∀c,c=IntKind.wrap IntKind.i64 (((Prod.fst b:Nat):Int)*48)→∀j,j=IntKind.wrap IntKind.i64 (((Prod.fst b:Nat):Int)+1)
 →∀d,d=IntKind.wrap IntKind.i64 (j*48)→((0≤d∧d≤((Int.toNat a:Nat):Int))∧0≤c∧c≤((Int.toNat d:Nat):Int))∧(Int.toNat ((Prod.fst b:Nat):Int)*4+4≤List.length (Prod.snd b)∧(if Int.toNat a=Int.toNat c
 then (0:Nat)else Int.toNat c*1)+(Int.toNat d-Int.toNat c)*1≤e.length)∧((List.length (List.take ((Int.toNat d-Int.toNat c)*1) (List.drop (if Int.toNat a=Int.toNat c then (0:Nat)else Int.toNat c*1) e))=Int.toNat d
 - Int.toNat c∧Int.toNat d-Int.toNat c≠32∧Int.toNat d-Int.toNat c<1099511627776∧Bytes (List.take ((Int.toNat d-Int.toNat c)*1) (List.drop (if Int.toNat a=Int.toNat c then (0:Nat)else Int.toNat c*1) e)))∧∀f:Nat,
 f=mont (beN (List.take ((Int.toNat d-Int.toNat c)*1) (List.drop (if Int.toNat a=Int.toNat c then (0:Nat)else Int.toNat c*1) e)))→(Int.toNat ((Prod.fst b:Nat):Int)*4+List.length [lm f 0,lm f 1,lm f 2,lm f 3]≤
 List.length (Prod.snd b)∧∀k:List Int,k=splice (Prod.snd b) (Int.toNat ((Prod.fst b:Nat):Int)*4) [lm f 0,lm f 1,lm f 2,lm f 3]→∀l,l=IntKind.wrap IntKind.i64 (((Prod.fst b:Nat):Int)+1)→∃g:Prod Nat (List
 Int),(Prod.fst g≤Int.toNat n∧List.length (Prod.snd g)=Int.toNat n*4∧List.take (4*Prod.fst g) (Prod.snd g)=hfW (fun ( r:Nat )=>mont (chN ex r)) (Prod.fst g))∧(((Int.toNat a=Int.toNat a∧Int.toNat a=Int.toNat a)∧
 (Int.toNat n=Int.toNat n∧Int.toNat n=Int.toNat n)∧n=n∧l=((Prod.fst g:Nat):Int))∧kL=kL∧e=e∧k=Prod.snd g)∧Int.toNat n-Prod.fst g<Int.toNat n-Prod.fst b))))∧(decide (((Prod.fst b:Nat):Int)<n)=
 false→K (.tup [.slice 649 (.lit 0) (.sym (Int.toNat n)) (.sym (Int.toNat n)),.val .nilIface]) (memL [(2,⟨true,.ints .u32 kL⟩),(577,⟨false,.ints .u8 e⟩),(649,⟨false,.ints .u64 (Prod.snd b)⟩)])))))):=by kernel_rfl
theorem fh_step {w:List Int} {n i r:Nat} {f:Nat→Nat} (hi:i<n) (hwl:w.length=n*4) (hw:w.take (4*i)=hfW f i) (hr:r=f i):
  (splice w (i*4) [lm r 0,lm r 1,lm r 2,lm r 3]).length=n*4∧(splice w (i*4) [lm r 0,lm r 1,lm r 2,lm r 3]).take (4*(i+1))=hfW f (i+1):=by
 rw[Nat.mul_comm i 4]
 refine ⟨?_,?_⟩
 ·rw[splice_length (by simp only[List.length_cons,List.length_nil];omega)]
  exact hwl
 ·have:=take_splice_mid (x:=w) (n:=4*i) (q:= [lm r 0,lm r 1,lm r 2,lm r 3]) (by omega)
  rw[show 4*(i+1)=4*i+ [lm r 0,lm r 1,lm r 2,lm r 3].length by simp only[List.length_cons,List.length_nil];omega,this,hw,hr]
  rfl
theorem fh_walk (msg dst:List Int) (l c l2 c2:Nat) (n:Int) (K:SV→Mem→Prop) (h1:msg.length=l) (h2:dst.length=l2) (hc1:l≤c) (hc2:l2≤c2) (b1:Bytes msg) (b2:Bytes dst) (m1:l≤65536) (m2:l2≤65536) (n1:1≤n) (n2:n≤170) (hup:KUp K)
  (hE:dst.length>255→∀s,K (.tup [.val (.slice none 0 0),.iface 126 (.ptr 577 (.lit 0))]) (memL [(577,⟨false,.cells [.val (.string s)]⟩)]))
  (hS:dst.length≤255→∀ws,ws=hfW (fun j=>mont (chN (expand msg dst (n*48).toNat) j)) n.toNat→K (.tup [.slice 649 (.lit 0) (.sym n.toNat) (.sym n.toNat),.val .nilIface]) (memL [(649,⟨false,.ints .u64 ws⟩)])):
  execF cxFH (uFH (expand msg dst (n*48).toNat) n.toNat) Tryz.f22 64 [.slice 9 (.lit 0) (.sym l) (.sym c),.slice 17 (.lit 0) (.sym l2) (.sym c2),.int .i64 (.sym n)] (memL [(2,⟨true,.ints .u32 kL⟩),(9,⟨true,.ints .u8 msg⟩),(17,⟨true,.ints .u8 dst⟩)]) K:=by
 have t1:List.take (l*1) (List.drop 0 msg)=msg:=by rw[Nat.mul_one,List.drop_zero,←h1,List.take_length]
 have t2:List.take (l2*1) (List.drop 0 dst)=dst:=by rw[Nat.mul_one,List.drop_zero,←h2,List.take_length]
 rw[vc_fh]
 intro x0 h0
 rw[wrap64 (by omega) (by omega)]at h0
 simp only[t1,t2]
 refine ⟨⟨by omega,by omega⟩,⟨trivial,h1,h2,hc1,hc2,b1,b2,m1,m2,by omega,by omega⟩,fun h=>absurd h (by omega),fun _ h s=> ?_,fun _ hd=> ?_⟩
 ·exact hup.le (memL_sub [2,9,17,577] rfl (by decide) (by
   intro x hx
   simp only[List.mem_cons,List.not_mem_nil,or_false]at hx ⊢
   simp[hx])) (hE h s)
 ·intro ys3 h3'
  intro ys4 h4
  have ey:ys4=expand msg dst (n*48).toNat:=by rw[h4,h3',h0]
  refine ⟨⟨by omega,by omega,by omega⟩,⟨(0,List.replicate (n.toNat*4) 0),⟨⟨Nat.zero_le _,by simp,by simp[hfW]⟩,by simp⟩⟩,?_⟩
  rintro ⟨i,w⟩ ⟨hi,hwl,hw⟩
  dsimp only at hi hwl hw ⊢
  refine ⟨fun h=> ?_,fun h=> ?_⟩
  ·simp only[decide_eq_true_eq]at h
   refine ⟨⟨by omega,by omega⟩,?_⟩
   rintro x9 h9 x10 h10 x11 h11
   rw[wrap64 (by omega) (by omega)]at h9 h10
   rw[wrap64 (by omega) (by omega)]at h11
   have e9:x9.toNat=48*i:=by omega
   have e11:x11.toNat=48*i+48:=by omega
   have e0:x0.toNat=48*n.toNat:=by omega
   have yl:ys4.length=48*n.toNat:=by rw[ey,expand_length];omega
   have hi':i<n.toNat:=by omega
   simp only[e9,e11,e0,Int.toNat_natCast,Nat.mul_one]
   rw[if_neg (by omega),show 48*i+48-48*i=48 by omega]
   refine ⟨⟨⟨by omega,by omega⟩,by omega,by omega⟩,⟨by omega,by omega⟩,⟨?_,by decide,by decide,?_⟩,?_⟩
   ·rw[List.length_take,List.length_drop];omega
   ·rw[ey]
    exact fun z hz=>expand_bytes _ _ _ z (List.mem_of_mem_drop (List.mem_of_mem_take hz))
   intro r12 h12
   refine ⟨by simp only[List.length_cons,List.length_nil];omega,?_⟩
   rintro ys13 h13 x14 h14
   rw[wrap64 (by omega) (by omega)]at h14
   obtain ⟨s1,s2⟩:=fh_step (r:=r12) hi' hwl hw (by rw[h12,←ey];rfl)
   rw[←h13]at s1 s2
   refine ⟨(i+1,ys13),⟨hi',s1,s2⟩,?_⟩
   repeat' apply And.intro
   all_goals first | rfl | trivial | (simp only;omega)
  ·simp only[decide_eq_false_iff_not]at h
   have hin:i=n.toNat:=by omega
   have e:w=hfW (fun j=>mont (chN (expand msg dst (n*48).toNat) j)) n.toNat:=by
    rw[hin,List.take_of_length_le (by omega)]at hw
    exact hw
   exact hup.le (memL_sub [2,577,649] rfl (by decide) (by
    intro x hx
    simp only[List.mem_cons,List.not_mem_nil,or_false]at hx ⊢
    simp[hx])) (hS hd w e)
theorem fhn_walk (dst:List Int) (l2 c2:Nat) (n:Int) (K:SV→Mem→Prop) (h2:dst.length=l2) (hc2:l2≤c2) (b2:Bytes dst) (m2:l2≤65536) (n1:1≤n) (n2:n≤170) (hup:KUp K)
  (hE:dst.length>255→∀s,K (.tup [.val (.slice none 0 0),.iface 126 (.ptr 577 (.lit 0))]) (memL [(577,⟨false,.cells [.val (.string s)]⟩)]))
  (hS:dst.length≤255→∀ws,ws=hfW (fun j=>mont (chN (expand [] dst (n*48).toNat) j)) n.toNat→K (.tup [.slice 649 (.lit 0) (.sym n.toNat) (.sym n.toNat),.val .nilIface]) (memL [(649,⟨false,.ints .u64 ws⟩)])):
  execF cxFH (uFH (expand [] dst (n*48).toNat) n.toNat) Tryz.f22 64 [.val (.slice none 0 0),.slice 9 (.lit 0) (.sym l2) (.sym c2),.int .i64 (.sym n)] (memL [(2,⟨true,.ints .u32 kL⟩),(9,⟨true,.ints .u8 dst⟩)]) K:=by
 have t2:List.take (l2*1) (List.drop 0 dst)=dst:=by rw[Nat.mul_one,List.drop_zero,←h2,List.take_length]
 rw[vc_fhn]
 intro x0 h0
 rw[wrap64 (by omega) (by omega)]at h0
 simp only[t2]
 refine ⟨by omega,⟨trivial,h2,hc2,b2,m2,by omega,by omega⟩,fun h=>absurd h (by omega),fun _ h s=> ?_,fun _ hd=> ?_⟩
 ·exact hup.le (memL_sub [2,9,577] rfl (by decide) (by
   intro x hx
   simp only[List.mem_cons,List.not_mem_nil,or_false]at hx ⊢
   simp[hx])) (hE h s)
 ·intro ys3 h3'
  intro ys4 h4
  have ey:ys4=expand [] dst (n*48).toNat:=by rw[h4,h3',h0]
  refine ⟨⟨by omega,by omega,by omega⟩,⟨(0,List.replicate (n.toNat*4) 0),⟨⟨Nat.zero_le _,by simp,by simp[hfW]⟩,by simp⟩⟩,?_⟩
  rintro ⟨i,w⟩ ⟨hi,hwl,hw⟩
  dsimp only at hi hwl hw ⊢
  refine ⟨fun h=> ?_,fun h=> ?_⟩
  ·simp only[decide_eq_true_eq]at h
   refine ⟨⟨by omega,by omega⟩,?_⟩
   rintro x9 h9 x10 h10 x11 h11
   rw[wrap64 (by omega) (by omega)]at h9 h10
   rw[wrap64 (by omega) (by omega)]at h11
   have e9:x9.toNat=48*i:=by omega
   have e11:x11.toNat=48*i+48:=by omega
   have e0:x0.toNat=48*n.toNat:=by omega
   have yl:ys4.length=48*n.toNat:=by rw[ey,expand_length];omega
   have hi':i<n.toNat:=by omega
   simp only[e9,e11,e0,Int.toNat_natCast,Nat.mul_one]
   rw[if_neg (by omega),show 48*i+48-48*i=48 by omega]
   refine ⟨⟨⟨by omega,by omega⟩,by omega,by omega⟩,⟨by omega,by omega⟩,⟨?_,by decide,by decide,?_⟩,?_⟩
   ·rw[List.length_take,List.length_drop];omega
   ·rw[ey]
    exact fun z hz=>expand_bytes _ _ _ z (List.mem_of_mem_drop (List.mem_of_mem_take hz))
   intro r12 h12
   refine ⟨by simp only[List.length_cons,List.length_nil];omega,?_⟩
   rintro ys13 h13 x14 h14
   rw[wrap64 (by omega) (by omega)]at h14
   obtain ⟨s1,s2⟩:=fh_step (r:=r12) hi' hwl hw (by rw[h12,←ey];rfl)
   rw[←h13]at s1 s2
   refine ⟨(i+1,ys13),⟨hi',s1,s2⟩,?_⟩
   repeat' apply And.intro
   all_goals first | rfl | trivial | (simp only;omega)
  ·simp only[decide_eq_false_iff_not]at h
   have hin:i=n.toNat:=by omega
   have e:w=hfW (fun j=>mont (chN (expand [] dst (n*48).toNat) j)) n.toNat:=by
    rw[hin,List.take_of_length_le (by omega)]at hw
    exact hw
   exact hup.le (memL_sub [2,577,649] rfl (by decide) (by
    intro x hx
    simp only[List.mem_cons,List.not_mem_nil,or_false]at hx ⊢
    simp[hx])) (hS hd w e)
def fhK (msg dst:List Int) (n:Int) (K:SV→Mem→Prop):Prop:=
 (dst.length>255→∀s,K (.tup [.val (.slice none 0 0),.iface 126 (.ptr 577 (.lit 0))]) (memL [(577,⟨false,.cells [.val (.string s)]⟩)]))∧
 (dst.length≤255→∀ws,ws=hfW (fun j=>mont (chN (expand msg dst (n*48).toNat) j)) n.toNat→K (.tup [.slice 649 (.lit 0) (.sym n.toNat) (.sym n.toNat),.val .nilIface]) (memL [(649,⟨false,.ints .u64 ws⟩)]))
def gFH:G0:=fun args l K=>
 match args,l with
 | [.slice 9 (.lit 0) (.sym n1) (.sym c1),.slice 17 (.lit 0) (.sym n2) (.sym c2),.int .i64 (.sym n)],[(2,⟨true,.ints .u32 ks⟩),(9,⟨true,.ints .u8 msg⟩),(17,⟨true,.ints .u8 dst⟩)]=>
  (ks=kL∧msg.length=n1∧dst.length=n2∧n1≤c1∧n2≤c2∧Bytes msg∧Bytes dst∧n1≤65536∧n2≤65536∧1≤n∧n≤170)∧fhK msg dst n K
 | [.val (.slice none 0 0),.slice 9 (.lit 0) (.sym n2) (.sym c2),.int .i64 (.sym n)],[(2,⟨true,.ints .u32 ks⟩),(9,⟨true,.ints .u8 dst⟩)]=>
  (ks=kL∧dst.length=n2∧n2≤c2∧Bytes dst∧n2≤65536∧1≤n∧n≤170)∧fhK [] dst n K
 | _,_=>False
theorem fhK_mono {msg dst:List Int} {n:Int} {K K':SV→Mem→Prop} (hk:∀v m,K v m→K' v m) (h:fhK msg dst n K):fhK msg dst n K':=
 ⟨fun a s=>hk _ _ (h.1 a s),fun a ys e=>hk _ _ (h.2 a ys e)⟩
theorem fhK_live {msg dst:List Int} {n:Int} {K:SV→Mem→Prop} (h:fhK msg dst n K):∃v m,K v m:=by
 by_cases h2:dst.length>255
 ·exact ⟨_,_,h.1 h2 .empty⟩
 ·exact ⟨_,_,h.2 (by omega) _ rfl⟩
theorem fh_good:Good gFH:=by
 constructor
 ·intro args l K K' hk h
  unfold gFH at h ⊢
  split at h
  ·exact ⟨h.1,fhK_mono hk h.2⟩
  ·exact ⟨h.1,fhK_mono hk h.2⟩
  ·exact h.elim
 ·intro args l K h
  unfold gFH at h
  split at h
  ·exact fhK_live h.2
  ·exact fhK_live h.2
  ·exact h.elim
theorem fh_ok (args:List SV) (l:List (Nat×Reg)) (K:SV→Mem→Prop) (hup:KUp K) (h:gFH args l K):∃U,execF cxFH U Tryz.f22 64 args (memL l) K:=by
 unfold gFH at h
 split at h
 ·rename_i n1 c1 n2 c2 n ks msg dst
  obtain ⟨⟨hk,h1,h2,h3,h4,h5,h6,h7,h8,h9,h10⟩,ha,hb⟩:=h
  subst hk
  exact ⟨_,fh_walk msg dst n1 c1 n2 c2 n K h1 h2 h3 h4 h5 h6 h7 h8 h9 h10 hup ha hb⟩
 ·rename_i n2 c2 n ks dst
  obtain ⟨⟨hk,h2,h4,h6,h8,h9,h10⟩,ha,hb⟩:=h
  subst hk
  exact ⟨_,fhn_walk dst n2 c2 n K h2 h4 h6 h8 h9 h10 hup ha hb⟩
 ·exact h.elim
def cFH:Ef Tryz.prog:=mkE mixed 22 Tryz.func22 (by decide) (by kernel_rfl) [1] [.sl 1 true,.sl 1 true,.num] gFH fh_good fh_ok
def ag4 (a b c d:Int):SV:= .agg [.int .u64 (.sym a),.int .u64 (.sym b),.int .u64 (.sym c),.int .u64 (.sym d)]
def pv (l:List Int):Nat→Int
 | 0=>0
 | i+1=>pv l i+l.getD i 0*18446744073709551616 ^ i
structure WI where
 i:Nat
 c:Int
 o:List Int
def liSum (a b:List Int):LI where
 ι:=WI
 keep:= [2,3,4,5,6]
 keepR:= [529]
 F:=fun s=>⟨[(7,.int .u64 (.sym s.c)),(8,i64n s.i)],[(513,⟨false,.ints .u64 a⟩),(521,⟨false,.ints .u64 b⟩),(553,⟨false,.ints .u64 s.o⟩)]⟩
 I:=fun _ s=>s.i≤4∧s.o.length=4∧(∀x∈s.o,Wd x)∧0≤s.c∧s.c≤1∧pv s.o s.i+s.c*18446744073709551616 ^ s.i=pv a s.i+pv b s.i
 μ:=fun s=>4-s.i
def liDif (a b:List Int):LI where
 ι:=WI
 keep:= [2,3,4,5]
 keepR:= [529]
 F:=fun s=>⟨[(6,.int .u64 (.sym s.c)),(7,i64n s.i)],[(513,⟨false,.ints .u64 a⟩),(521,⟨false,.ints .u64 b⟩),(545,⟨false,.ints .u64 s.o⟩)]⟩
 I:=fun _ s=>s.i≤4∧s.o.length=4∧(∀x∈s.o,Wd x)∧0≤s.c∧s.c≤1∧pv s.o s.i=pv a s.i-pv b s.i+s.c*18446744073709551616 ^ s.i
 μ:=fun s=>4-s.i
theorem vc_less (a0 a1 a2 a3 b0 b1 b2 b3:Int) (K:SV→Mem→Prop):(execF cx0 u9 Tryz.f45 64 [ag4 a0 a1 a2 a3,ag4 b0 b1 b2 b3] (memL []) K)=(((a3 !=b3)=true→K (.bool (.sym (decide (a3<b3)))) (memL [(513,⟨false,.cells [.int
 .u64 (.sym a0),.int .u64 (.sym a1),.int .u64 (.sym a2),.int .u64 (.sym a3)]⟩),(521,⟨false,.cells [.int .u64 (.sym b0),.int .u64 (.sym b1),.int .u64 (.sym b2),.int .u64 (.sym b3)]⟩)]))∧((a3 !=b3)=false→((a2 !=b2)=true→K
 (.bool (.sym (decide (a2<b2)))) (memL [(513,⟨false,.cells [.int .u64 (.sym a0),.int .u64 (.sym a1),.int .u64 (.sym a2),.int .u64 (.sym a3)]⟩),(521,⟨false,.cells [.int .u64 (.sym b0),.int .u64 (.sym b1),.int .u64 (.sym b2),.int
 .u64 (.sym b3)]⟩)]))∧((a2 !=b2)=false→((a1 !=b1)=true→K (.bool (.sym (decide (a1<b1)))) (memL [(513,⟨false,.cells [.int .u64 (.sym a0),.int .u64 (.sym a1),.int .u64 (.sym a2),.int .u64 (.sym a3)]⟩),(521,⟨false,.cells
 [.int .u64 (.sym b0),.int .u64 (.sym b1),.int .u64 (.sym b2),.int .u64 (.sym b3)]⟩)]))∧((a1 !=b1)=false→((a0 !=b0)=true→K (.bool (.sym (decide (a0<b0)))) (memL [(513,⟨false,.cells [.int .u64 (.sym a0),.int .u64 (.sym
 a1),.int .u64 (.sym a2),.int .u64 (.sym a3)]⟩),(521,⟨false,.cells [.int .u64 (.sym b0),.int .u64 (.sym b1),.int .u64 (.sym b2),.int .u64 (.sym b3)]⟩)]))∧((a0 !=b0)=false→K (.bool (.lit false)) (memL [(513,⟨false,.cells
 [.int .u64 (.sym a0),.int .u64 (.sym a1),.int .u64 (.sym a2),.int .u64 (.sym a3)]⟩),(521,⟨false,.cells [.int .u64 (.sym b0),.int .u64 (.sym b1),.int .u64 (.sym b2),.int .u64 (.sym b3)]⟩)])))))):=by kernel_rfl
def rLs:R0:=fun args l=>
 match args,l with
 | [.agg [.int .u64 (.sym a0),.int .u64 (.sym a1),.int .u64 (.sym a2),.int .u64 (.sym a3)],.agg [.int .u64 (.sym b0),.int .u64 (.sym b1),.int .u64 (.sym b2),.int .u64 (.sym b3)]],[]=>
  some (some ((Wd a0∧Wd a1∧Wd a2∧Wd a3)∧Wd b0∧Wd b1∧Wd b2∧Wd b3),.bool (.sym (decide (V4 a0 a1 a2 a3<V4 b0 b1 b2 b3))))
 | _,_=>none
theorem ls_ok (args:List SV) (l:List (Nat×Reg)) (p:Ob) (v:SV) (h:rLs args l=some (p,v)) (hp:p.ok):∃U,execF cx0 U Tryz.f45 64 args (memL l) fun v' _=>∀β u,Den β v' u→Den β v u:=by
 refine ⟨u9,?_⟩
 unfold rLs at h
 split at h
 ·rename_i a0 a1 a2 a3 b0 b1 b2 b3
  simp only[Option.some.injEq,Prod.mk.injEq]at h
  obtain ⟨rfl,rfl⟩:=h
  obtain ⟨⟨ha0,ha1,ha2,ha3⟩,hb0,hb1,hb2,hb3⟩:(Wd a0∧Wd a1∧Wd a2∧Wd a3)∧Wd b0∧Wd b1∧Wd b2∧Wd b3:=hp
  unfold Wd at *
  have:=vc_less a0 a1 a2 a3 b0 b1 b2 b3 fun v' _=>∀β u,Den β v' u→Den β (.bool (.sym (decide (V4 a0 a1 a2 a3<V4 b0 b1 b2 b3)))) u
  unfold ag4 at this
  rw[this]
  simp only[bne_iff_ne,ne_eq,bne_eq_false_iff_eq]
  repeat' first
   | exact den_f (by unfold V4;omega)
   | exact den_s (by unfold V4;omega)
   | apply And.intro
   | intro _
 ·cases h
def cLs:Rd Tryz.prog:=mkQ mixed 45 Tryz.func45 (by decide) (by kernel_rfl) [] [.num,.num] rLs ls_ok
theorem vc_pp (K:SV→Mem→Prop):execF cx0 u9 Tryz.f21 64 [] (memL []) K=K (.agg [.int .u64 (.lit 4332616871279656263),.int .u64 (.lit 10917124144477883021),.int .u64 (.lit 13281191951274694749),.int .u64 (.lit
 3486998266802970665)]) (memL [(513,⟨false,.cells [.int .u64 (.lit 4332616871279656263),.int .u64 (.lit 10917124144477883021),.int .u64 (.lit 13281191951274694749),.int .u64 (.lit 3486998266802970665)]⟩)]):=by kernel_rfl
def rPP:R0:=fun args l=>
 match args,l with
 | [],[]=>some (none,.agg [.int .u64 (.lit 4332616871279656263),.int .u64 (.lit 10917124144477883021),.int .u64 (.lit 13281191951274694749),.int .u64 (.lit 3486998266802970665)])
 | _,_=>none
theorem pp_ok (args:List SV) (l:List (Nat×Reg)) (p:Ob) (v:SV) (h:rPP args l=some (p,v)) (_:p.ok):∃U,execF cx0 U Tryz.f21 64 args (memL l) fun v' _=>v'=v:=by
 refine ⟨u9,?_⟩
 unfold rPP at h
 split at h
 ·simp only[Option.some.injEq,Prod.mk.injEq]at h
  obtain ⟨rfl,rfl⟩:=h
  rw[vc_pp]
 ·cases h
def cPP:Rd Tryz.prog:=mkR mixed 21 Tryz.func21 (by decide) (by kernel_rfl) [] [] rPP pp_ok
theorem vc_wsum (a0 a1 a2 a3 b0 b1 b2 b3:Int) (K:SV→Mem→Prop):(execF cx0 (fun n=>if n=0 then .inv (liSum [a0,a1,a2,a3] [b0,b1,b2,b3])else .un 0) Tryz.f64 64 [ag4 a0 a1 a2 a3,ag4 b0 b1 b2 b3] (memL []) K)=((∃f:WI,(WI.i
 f≤4∧List.length (WI.o f)=4∧(∀r:Int,List.Mem r (WI.o f)→Wd r)∧0≤WI.c f∧WI.c f≤1∧pv (WI.o f) (WI.i f)+WI.c f*(18446744073709551616:Int) ^ WI.i f=pv [a0,a1,a2,a3] (WI.i f)+pv [b0,b1,b2,b3] (WI.i f))∧
 (0=WI.c f∧0=((WI.i f:Nat):Int))∧[a0,a1,a2,a3]= [a0,a1,a2,a3]∧[b0,b1,b2,b3]= [b0,b1,b2,b3]∧[(0:Int),(0:Int),(0:Int),(0:Int)]=WI.o f)∧∀a:WI,WI.i a≤4∧List.length (WI.o a)=4∧(∀s:Int,
 List.Mem s (WI.o a)→Wd s)∧0≤WI.c a∧WI.c a≤1∧pv (WI.o a) (WI.i a)+WI.c a*(18446744073709551616:Int) ^ WI.i a=pv [a0,a1,a2,a3] (WI.i a)+pv [b0,b1,b2,b3] (WI.i a)→(decide (((WI.i a:Nat):Int)<4)=true→(0
 ≤((WI.i a:Nat):Int)∧((WI.i a:Nat):Int)<4)∧(Int.toNat ((WI.i a:Nat):Int)*1+1≤List.length [a0,a1,a2,a3]∧∀t:Int,t=List.getD [a0,a1,a2,a3] (Int.toNat ((WI.i a:Nat):Int)*1) (0:Int)→(0≤((WI.i a
 :Nat):Int)∧((WI.i a:Nat):Int)<4)∧(Int.toNat ((WI.i a:Nat):Int)*1+1≤List.length [b0,b1,b2,b3]∧∀u:Int,u=List.getD [b0,b1,b2,b3] (Int.toNat ((WI.i a:Nat):Int)*1) (0:Int)→∀g,g=IntKind.wrap
 IntKind.u64 (t+u)→(0≤((WI.i a:Nat):Int)∧((WI.i a:Nat):Int)<4)∧(Int.toNat ((WI.i a:Nat):Int)*1+1≤List.length [a0,a1,a2,a3]∧∀j:Int,j=List.getD [a0,a1,a2,a3] (Int.toNat ((WI.i a:Nat):Int)*1)
 (0:Int)→(decide (g<j)=true→∀h,h=IntKind.wrap IntKind.u64 (g+WI.c a)→(0≤((WI.i a:Nat):Int)∧((WI.i a:Nat):Int)<4)∧Int.toNat ((WI.i a:Nat):Int)*1<List.length (WI.o a)∧(0≤((WI.i a:Nat):Int)∧
 ((WI.i a:Nat):Int)<4)∧(Int.toNat ((WI.i a:Nat):Int)*1+1≤List.length (List.set (WI.o a) (Int.toNat ((WI.i a:Nat):Int)*1) h)∧∀k:Int,k=List.getD (List.set (WI.o a) (Int.toNat ((WI.i a:Nat):Int)*1) h)
 (Int.toNat ((WI.i a:Nat):Int)*1) (0:Int)→(decide (k<g)=true→∀v,v=IntKind.wrap IntKind.i64 (((WI.i a:Nat):Int)+1)→∃b:WI,(WI.i b≤4∧List.length (WI.o b)=4∧(∀w:Int,List.Mem w (WI.o b)→Wd w)∧0≤
 WI.c b∧WI.c b≤1∧pv (WI.o b) (WI.i b)+WI.c b*(18446744073709551616:Int) ^ WI.i b=pv [a0,a1,a2,a3] (WI.i b)+pv [b0,b1,b2,b3] (WI.i b))∧((1=WI.c b∧v=((WI.i b:Nat):Int))∧[a0,a1,a2,a3]= [a0,a1,a2,a3]∧
 [b0,b1,b2,b3]= [b0,b1,b2,b3]∧List.set (WI.o a) (Int.toNat ((WI.i a:Nat):Int)*1) h=WI.o b)∧4-WI.i b<4-WI.i a)∧(decide (k<g)=false→∀x,x=IntKind.wrap IntKind.i64 (((WI.i a:Nat):Int)+1)→∃c:WI,
 (WI.i c≤4∧List.length (WI.o c)=4∧(∀y:Int,List.Mem y (WI.o c)→Wd y)∧0≤WI.c c∧WI.c c≤1∧pv (WI.o c) (WI.i c)+WI.c c*(18446744073709551616:Int) ^ WI.i c=pv [a0,a1,a2,a3] (WI.i c)+pv [b0,b1,b2,b3] (WI.i
 c))∧((1=WI.c c∧x=((WI.i c:Nat):Int))∧[a0,a1,a2,a3]= [a0,a1,a2,a3]∧[b0,b1,b2,b3]= [b0,b1,b2,b3]∧List.set (WI.o a) (Int.toNat ((WI.i a:Nat):Int)*1) h=WI.o c)∧4-WI.i c<4-WI.i a)))∧(decide (g <
 j)=false→∀i,i=IntKind.wrap IntKind.u64 (g+WI.c a)→(0≤((WI.i a:Nat):Int)∧((WI.i a:Nat):Int)<4)∧Int.toNat ((WI.i a:Nat):Int)*1<List.length (WI.o a)∧(0≤((WI.i a:Nat):Int)∧((WI.i a:Nat):Int) <
 4)∧(Int.toNat ((WI.i a:Nat):Int)*1+1≤List.length (List.set (WI.o a) (Int.toNat ((WI.i a:Nat):Int)*1) i)∧∀l:Int,l=List.getD (List.set (WI.o a) (Int.toNat ((WI.i a:Nat):Int)*1) i) (Int.toNat ((WI.i a:Nat):
 Int)*1) (0:Int)→(decide (l<g)=true→∀z,z=IntKind.wrap IntKind.i64 (((WI.i a:Nat):Int)+1)→∃d:WI,(WI.i d≤4∧List.length (WI.o d)=4∧(∀A:Int,List.Mem A (WI.o d)→Wd A)∧0≤WI.c d∧WI.c d≤1∧pv (WI.o
 d) (WI.i d)+WI.c d*(18446744073709551616:Int) ^ WI.i d=pv [a0,a1,a2,a3] (WI.i d)+pv [b0,b1,b2,b3] (WI.i d))∧((1=WI.c d∧z=((WI.i d:Nat):Int))∧[a0,a1,a2,a3]= [a0,a1,a2,a3]∧[b0,b1,b2,b3]= [b0,b1,
 b2,b3]∧List.set (WI.o a) (Int.toNat ((WI.i a:Nat):Int)*1) i=WI.o d)∧4-WI.i d<4-WI.i a)∧(decide (l<g)=false→∀B,B=IntKind.wrap IntKind.i64 (((WI.i a:Nat):Int)+1)→∃e:WI,(WI.i e≤4∧List.length
 (WI.o e)=4∧(∀C:Int,List.Mem C (WI.o e)→Wd C)∧0≤WI.c e∧WI.c e≤1∧pv (WI.o e) (WI.i e)+WI.c e*(18446744073709551616:Int) ^ WI.i e=pv [a0,a1,a2,a3] (WI.i e)+pv [b0,b1,b2,b3] (WI.i e))∧((0=WI.c e∧B=
 ((WI.i e:Nat):Int))∧[a0,a1,a2,a3]= [a0,a1,a2,a3]∧[b0,b1,b2,b3]= [b0,b1,b2,b3]∧List.set (WI.o a) (Int.toNat ((WI.i a:Nat):Int)*1) i=WI.o e)∧4-WI.i e<4-WI.i a)))))))∧(decide (((WI.i a:Nat):Int) <
 4)=false→(4≤List.length (WI.o a)∧∀m:Int,m=List.getD (WI.o a) 0 (0:Int)→∀o:Int,o=List.getD (WI.o a) 1 (0:Int)→∀p:Int,p=List.getD (WI.o a) 2 (0:Int)→∀q:Int,q=List.getD (WI.o a) 3 (0:Int)→K
 (.tup [.agg [.int .u64 (.sym m),.int .u64 (.sym o),.int .u64 (.sym p),.int .u64 (.sym q)],.bool (.sym (WI.c a==1))]) (memL [(513,⟨false,.ints .u64 [a0,a1,a2,a3]⟩),(521,⟨false,.ints .u64 [b0,b1,b2,b3]⟩),(529,⟨false,
 .cells [.int .u64 (.sym m),.int .u64 (.sym o),.int .u64 (.sym p),.int .u64 (.sym q)]⟩),(553,⟨false,.ints .u64 (WI.o a)⟩)])))):=by kernel_rfl
theorem pv_set (o:List Int) (i:Nat) (y:Int):∀j,j≤i→pv (o.set i y) j=pv o j
 | 0,_=>rfl
 | j+1,h=>by
  unfold pv
  rw[pv_set o i y j (by omega),List.getD_eq_getElem?_getD,List.getD_eq_getElem?_getD,List.getElem?_set_ne (by omega)]
theorem pv_set1 {o:List Int} {i:Nat} (y:Int) (h:i<o.length):pv (o.set i y) (i+1)=pv o i+y*18446744073709551616 ^ i:=by
 show pv (o.set i y) i+(o.set i y).getD i 0*18446744073709551616 ^ i=_
 rw[pv_set o i y i (Nat.le_refl _),List.getD_eq_getElem?_getD,List.getElem?_set_self h]
 rfl
theorem pow_fact {P pO pA pB y c c' ai bi:Int} (e:pO+c*P=pA+pB) (h:y+c'*18446744073709551616=ai+bi+c):
  pO+y*P+c'*(P*18446744073709551616)=pA+ai*P+(pB+bi*P):=by
 have h2:(y+c'*18446744073709551616)*P=(ai+bi+c)*P:=by rw[h]
 rw[Int.add_mul,Int.add_mul,Int.add_mul]at h2
 have h3:c'*(P*18446744073709551616)=c'*18446744073709551616*P:=by rw[Int.mul_comm P,Int.mul_assoc]
 rw[h3]
 omega
theorem wd_set {o:List Int} {i:Nat} {y:Int} (h:∀x∈o,Wd x) (hy:Wd y):∀x∈o.set i y,Wd x:=by
 intro x hx
 rcases List.mem_or_eq_of_mem_set hx with h1 | h1
 ·exact h x h1
 ·rw[h1];exact hy
theorem wd_get {a:List Int} (h:∀x∈a,Wd x) {i:Nat}:Wd (a.getD i 0):=by
 rw[List.getD_eq_getElem?_getD]
 cases e:a[i]? with
 | none=>exact wd0
 | some x=>exact h x (List.mem_of_getElem? e)
theorem sum_step {a b o:List Int} {c c':Int} {i:Nat} {y:Int} (hi:i<o.length) (e:pv o i+c*18446744073709551616 ^ i=pv a i+pv b i) (h:y+c'*18446744073709551616=a.getD i 0+b.getD i 0+c):
  pv (o.set i y) (i+1)+c'*18446744073709551616 ^ (i+1)=pv a (i+1)+pv b (i+1):=by
 rw[pv_set1 y hi,Int.pow_succ]
 exact pow_fact e h
theorem pv4 (a b c d:Int):pv [a,b,c,d] 4=V4 a b c d:=by
 unfold V4
 simp only[pv,List.getD_cons_zero,List.getD_cons_succ]
 omega
theorem wsum_walk (a0 a1 a2 a3 b0 b1 b2 b3:Int) (K:SV→Mem→Prop) (ha:∀x∈[a0,a1,a2,a3],Wd x) (hb:∀x∈[b0,b1,b2,b3],Wd x)
  (hK:∀o0 o1 o2 o3 c m,Wd o0→Wd o1→Wd o2→Wd o3→0≤c→c≤1→V4 o0 o1 o2 o3+c*115792089237316195423570985008687907853269984665640564039457584007913129639936=V4 a0 a1 a2 a3+V4 b0 b1 b2 b3→
   K (.tup [ag4 o0 o1 o2 o3,.bool (.sym (c==1))]) m):
  execF cx0 (fun n=>if n=0 then .inv (liSum [a0,a1,a2,a3] [b0,b1,b2,b3])else .un 0) Tryz.f64 64 [ag4 a0 a1 a2 a3,ag4 b0 b1 b2 b3] (memL []) K:=by
 rw[vc_wsum]
 generalize hA: [a0,a1,a2,a3]=A at ha ⊢
 generalize hB: [b0,b1,b2,b3]=B at hb ⊢
 have lA:A.length=4:=by rw[←hA];rfl
 have lB:B.length=4:=by rw[←hB];rfl
 refine ⟨⟨⟨0,0,[0,0,0,0]⟩,⟨Nat.zero_le _,rfl,?_,Int.le_refl _,by decide,rfl⟩,⟨rfl,rfl⟩,rfl,rfl,rfl⟩,?_⟩
 ·intro x hx
  have hx:x∈[0,0,0,0]:=hx
  simp only[List.mem_cons,List.not_mem_nil,or_false,or_self]at hx
  rw[hx]
  exact wd0
 rintro ⟨i,c,o⟩ ⟨hi,ho,hw,hc0,hc1,e⟩
 dsimp only at hi ho hw hc0 hc1 e ⊢
 have hw:∀x∈o,Wd x:=hw
 refine ⟨fun h=> ?_,fun h=> ?_⟩
 ·simp only[decide_eq_true_eq]at h
  simp only[Int.toNat_natCast,Nat.mul_one]
  have hai:=wd_get ha (i:=i)
  have hbi:=wd_get hb (i:=i)
  have ho':i<o.length:=by omega
  refine ⟨⟨by omega,by omega⟩,by omega,?_⟩
  rintro x4 h4
  refine ⟨⟨by omega,by omega⟩,by omega,?_⟩
  rintro x5 h5 x6 h6
  rw[wu64]at h6
  refine ⟨⟨by omega,by omega⟩,by omega,?_⟩
  rintro x7 h7
  rw[←h4]at hai h7
  rw[←h5]at hbi
  rw[h7]
  unfold Wd at hai hbi
  have fin:∀y c':Int,Wd y→0≤c'→c'≤1→y+c'*18446744073709551616=x4+x5+c→∀x10,x10=IntKind.i64.wrap ((i:Int)+1)→
    ∃w:WI,((w.i≤4∧w.o.length=4∧(∀x,List.Mem x w.o→Wd x)∧0≤w.c∧w.c≤1∧pv w.o w.i+w.c*18446744073709551616 ^ w.i=pv A w.i+pv B w.i)∧(((c'=w.c∧x10=((w.i:Nat):Int))∧True∧True∧o.set i y=w.o)∧4-w.i<4-i)):=by
   intro y c' hy h0 h1 hs x10 h10
   rw[wrap64 (by omega) (by omega)]at h10
   refine ⟨⟨i+1,c',o.set i y⟩,⟨by simp only;omega,by simp only[List.length_set];exact ho,wd_set hw hy,h0,h1,sum_step ho' e (by rw[hs,h4,h5])⟩,⟨⟨rfl,h10.trans (by simp only;omega)⟩,trivial,trivial,rfl⟩,by simp only;omega⟩
  refine ⟨fun hlt=> ?_,fun hlt=> ?_⟩
  all_goals
   simp only[decide_eq_true_eq,decide_eq_false_iff_not]at hlt
   rintro x8 h8
   rw[wu64]at h8
   have hy:Wd x8:=by unfold Wd;omega
   refine ⟨⟨by omega,by omega⟩,by omega,⟨by omega,by omega⟩,by simp only[List.length_set];omega,?_⟩
   rintro x9 h9
   rw[List.getD_eq_getElem?_getD,List.getElem?_set_self ho',Option.getD_some]at h9
   rw[h9]
   refine ⟨fun hl2=> ?_,fun hl2=> ?_⟩
   all_goals
    simp only[decide_eq_true_eq,decide_eq_false_iff_not]at hl2
    refine fin x8 _ hy ?_ ?_ ?_
    all_goals omega
 ·simp only[decide_eq_false_iff_not]at h
  have h4:i=4:=by omega
  refine ⟨by omega,?_⟩
  rintro _ rfl _ rfl _ rfl _ rfl
  rw[h4,←hA,←hB,pv4,pv4]at e
  match o,ho,hw,e with
  | [o0,o1,o2,o3],_,hw,e=>
   rw[pv4]at e
   exact hK o0 o1 o2 o3 c _ (hw _ (by simp)) (hw _ (by simp)) (hw _ (by simp)) (hw _ (by simp)) hc0 hc1 (e.trans rfl)
theorem wds {a b c d:Int} (h:Wd a∧Wd b∧Wd c∧Wd d):∀x∈[a,b,c,d],Wd x:=by
 obtain ⟨h0,h1,h2,h3⟩:=h
 intro x hx
 simp only[List.mem_cons,List.not_mem_nil,or_false]at hx
 rcases hx with rfl | rfl | rfl | rfl<;>assumption
def w256 (x:Int):Nat:=(x%115792089237316195423570985008687907853269984665640564039457584007913129639936).toNat
theorem w256_of {o0 o1 o2 o3 c s:Int} (h0:Wd o0) (h1:Wd o1) (h2:Wd o2) (h3:Wd o3) (e:V4 o0 o1 o2 o3+c*115792089237316195423570985008687907853269984665640564039457584007913129639936=s):
  o0=lm (w256 s) 0∧o1=lm (w256 s) 1∧o2=lm (w256 s) 2∧o3=lm (w256 s) 3:=by
 refine lm_of h0 h1 h2 h3 ?_
 have n0:=V4_nonneg h0 h1 h2 h3
 have n1:=V4_lt h0 h1 h2 h3
 unfold w256
 omega
def rWs:R0:=fun args l=>
 match args,l with
 | [.agg [.int .u64 (.sym a0),.int .u64 (.sym a1),.int .u64 (.sym a2),.int .u64 (.sym a3)],.agg [.int .u64 (.sym b0),.int .u64 (.sym b1),.int .u64 (.sym b2),.int .u64 (.sym b3)]],[]=>
  some (some ((Wd a0∧Wd a1∧Wd a2∧Wd a3)∧Wd b0∧Wd b1∧Wd b2∧Wd b3),
   .tup [ag4 (lm (w256 (V4 a0 a1 a2 a3+V4 b0 b1 b2 b3)) 0) (lm (w256 (V4 a0 a1 a2 a3+V4 b0 b1 b2 b3)) 1) (lm (w256 (V4 a0 a1 a2 a3+V4 b0 b1 b2 b3)) 2) (lm (w256 (V4 a0 a1 a2 a3+V4 b0 b1 b2 b3)) 3),
    .bool (.sym (decide (115792089237316195423570985008687907853269984665640564039457584007913129639936≤V4 a0 a1 a2 a3+V4 b0 b1 b2 b3)))])
 | _,_=>none
theorem ws_ok (args:List SV) (l:List (Nat×Reg)) (p:Ob) (v:SV) (h:rWs args l=some (p,v)) (hp:p.ok):∃U,execF cx0 U Tryz.f64 64 args (memL l) fun v' _=>v'=v:=by
 unfold rWs at h
 split at h
 ·rename_i a0 a1 a2 a3 b0 b1 b2 b3
  simp only[Option.some.injEq,Prod.mk.injEq]at h
  obtain ⟨rfl,rfl⟩:=h
  obtain ⟨ha,hb⟩:(Wd a0∧Wd a1∧Wd a2∧Wd a3)∧Wd b0∧Wd b1∧Wd b2∧Wd b3:=hp
  refine ⟨_,wsum_walk a0 a1 a2 a3 b0 b1 b2 b3 _ (wds ha) (wds hb) fun o0 o1 o2 o3 c m h0 h1 h2 h3 hc0 hc1 e=> ?_⟩
  obtain ⟨e0,e1,e2,e3⟩:=w256_of h0 h1 h2 h3 e
  have n0:=V4_nonneg h0 h1 h2 h3
  have n1:=V4_lt h0 h1 h2 h3
  have hc:(c==1)=decide (115792089237316195423570985008687907853269984665640564039457584007913129639936≤V4 a0 a1 a2 a3+V4 b0 b1 b2 b3):=by
   rw[←e]
   by_cases h:c=1
   ·rw[h]
    simp only[beq_self_eq_true]
    exact (decide_eq_true (by omega)).symm
   ·have hc:c=0:=by omega
    rw[hc]
    exact (decide_eq_false (by omega)).symm
  rw[hc,←e0,←e1,←e2,←e3]
 ·cases h
def cWs:Rd Tryz.prog:=mkR mixed 64 Tryz.func64 (by decide) (by kernel_rfl) [] [.num,.num] rWs ws_ok
theorem vc_wdif (a0 a1 a2 a3 b0 b1 b2 b3:Int) (K:SV→Mem→Prop):(execF cx0 (fun n=>if n=0 then .inv (liDif [a0,a1,a2,a3] [b0,b1,b2,b3])else .un 0) Tryz.f46 64 [ag4 a0 a1 a2 a3,ag4 b0 b1 b2 b3] (memL []) K)=((∃f:WI,(WI.i
 f≤4∧List.length (WI.o f)=4∧(∀q:Int,List.Mem q (WI.o f)→Wd q)∧0≤WI.c f∧WI.c f≤1∧pv (WI.o f) (WI.i f)=pv [a0,a1,a2,a3] (WI.i f)-pv [b0,b1,b2,b3] (WI.i f)+WI.c f*(18446744073709551616:Int) ^ WI.i f)∧
 (0=WI.c f∧0=((WI.i f:Nat):Int))∧[a0,a1,a2,a3]= [a0,a1,a2,a3]∧[b0,b1,b2,b3]= [b0,b1,b2,b3]∧[(0:Int),(0:Int),(0:Int),(0:Int)]=WI.o f)∧∀a:WI,WI.i a≤4∧List.length (WI.o a)=4∧(∀r:Int,
 List.Mem r (WI.o a)→Wd r)∧0≤WI.c a∧WI.c a≤1∧pv (WI.o a) (WI.i a)=pv [a0,a1,a2,a3] (WI.i a)-pv [b0,b1,b2,b3] (WI.i a)+WI.c a*(18446744073709551616:Int) ^ WI.i a→(decide (((WI.i a:Nat):Int)<4)=true→(0
 ≤((WI.i a:Nat):Int)∧((WI.i a:Nat):Int)<4)∧(Int.toNat ((WI.i a:Nat):Int)*1+1≤List.length [a0,a1,a2,a3]∧∀s:Int,s=List.getD [a0,a1,a2,a3] (Int.toNat ((WI.i a:Nat):Int)*1) (0:Int)→(0≤((WI.i a
 :Nat):Int)∧((WI.i a:Nat):Int)<4)∧(Int.toNat ((WI.i a:Nat):Int)*1+1≤List.length [b0,b1,b2,b3]∧∀t:Int,t=List.getD [b0,b1,b2,b3] (Int.toNat ((WI.i a:Nat):Int)*1) (0:Int)→∀g,g=IntKind.wrap
 IntKind.u64 (s-t)→(0≤((WI.i a:Nat):Int)∧((WI.i a:Nat):Int)<4)∧(Int.toNat ((WI.i a:Nat):Int)*1+1≤List.length [a0,a1,a2,a3]∧∀h:Int,h=List.getD [a0,a1,a2,a3] (Int.toNat ((WI.i a:Nat):Int)*1)
 (0:Int)→(0≤((WI.i a:Nat):Int)∧((WI.i a:Nat):Int)<4)∧(Int.toNat ((WI.i a:Nat):Int)*1+1≤List.length [b0,b1,b2,b3]∧∀i:Int,i=List.getD [b0,b1,b2,b3] (Int.toNat ((WI.i a:Nat):Int)*1) (0:Int)→
 (decide (h<i)=true→∀j,j=IntKind.wrap IntKind.u64 (g-WI.c a)→(0≤((WI.i a:Nat):Int)∧((WI.i a:Nat):Int)<4)∧Int.toNat ((WI.i a:Nat):Int)*1<List.length (WI.o a)∧(decide (g<WI.c a)=true→∀u,u=
 IntKind.wrap IntKind.i64 (((WI.i a:Nat):Int)+1)→∃b:WI,(WI.i b≤4∧List.length (WI.o b)=4∧(∀v:Int,List.Mem v (WI.o b)→Wd v)∧0≤WI.c b∧WI.c b≤1∧pv (WI.o b) (WI.i b)=pv [a0,a1,a2,a3] (WI.i b)-pv [b0,
 b1,b2,b3] (WI.i b)+WI.c b*(18446744073709551616:Int) ^ WI.i b)∧((1=WI.c b∧u=((WI.i b:Nat):Int))∧[a0,a1,a2,a3]= [a0,a1,a2,a3]∧[b0,b1,b2,b3]= [b0,b1,b2,b3]∧List.set (WI.o a) (Int.toNat ((WI.i a:Nat)
 :Int)*1) j=WI.o b)∧4-WI.i b<4-WI.i a)∧(decide (g<WI.c a)=false→∀w,w=IntKind.wrap IntKind.i64 (((WI.i a:Nat):Int)+1)→∃c:WI,(WI.i c≤4∧List.length (WI.o c)=4∧(∀x:Int,List.Mem x (WI.o c)→Wd x)
 ∧0≤WI.c c∧WI.c c≤1∧pv (WI.o c) (WI.i c)=pv [a0,a1,a2,a3] (WI.i c)-pv [b0,b1,b2,b3] (WI.i c)+WI.c c*(18446744073709551616:Int) ^ WI.i c)∧((1=WI.c c∧w=((WI.i c:Nat):Int))∧[a0,a1,a2,a3]= [a0,a1,a2,
 a3]∧[b0,b1,b2,b3]= [b0,b1,b2,b3]∧List.set (WI.o a) (Int.toNat ((WI.i a:Nat):Int)*1) j=WI.o c)∧4-WI.i c<4-WI.i a))∧(decide (h<i)=false→∀k,k=IntKind.wrap IntKind.u64 (g-WI.c a)→(0≤((WI.i a:Nat)
 :Int)∧((WI.i a:Nat):Int)<4)∧Int.toNat ((WI.i a:Nat):Int)*1<List.length (WI.o a)∧(decide (g<WI.c a)=true→∀y,y=IntKind.wrap IntKind.i64 (((WI.i a:Nat):Int)+1)→∃d:WI,(WI.i d≤4∧List.length (WI.o
 d)=4∧(∀z:Int,List.Mem z (WI.o d)→Wd z)∧0≤WI.c d∧WI.c d≤1∧pv (WI.o d) (WI.i d)=pv [a0,a1,a2,a3] (WI.i d)-pv [b0,b1,b2,b3] (WI.i d)+WI.c d*(18446744073709551616:Int) ^ WI.i d)∧((1=WI.c d∧y=((WI.i d
 :Nat):Int))∧[a0,a1,a2,a3]= [a0,a1,a2,a3]∧[b0,b1,b2,b3]= [b0,b1,b2,b3]∧List.set (WI.o a) (Int.toNat ((WI.i a:Nat):Int)*1) k=WI.o d)∧4-WI.i d<4-WI.i a)∧(decide (g<WI.c a)=false→∀A,A=
 IntKind.wrap IntKind.i64 (((WI.i a:Nat):Int)+1)→∃e:WI,(WI.i e≤4∧List.length (WI.o e)=4∧(∀B:Int,List.Mem B (WI.o e)→Wd B)∧0≤WI.c e∧WI.c e≤1∧pv (WI.o e) (WI.i e)=pv [a0,a1,a2,a3] (WI.i e)-pv [b0,
 b1,b2,b3] (WI.i e)+WI.c e*(18446744073709551616:Int) ^ WI.i e)∧((0=WI.c e∧A=((WI.i e:Nat):Int))∧[a0,a1,a2,a3]= [a0,a1,a2,a3]∧[b0,b1,b2,b3]= [b0,b1,b2,b3]∧List.set (WI.o a) (Int.toNat ((WI.i a:Nat)
 :Int)*1) k=WI.o e)∧4-WI.i e<4-WI.i a)))))))∧(decide (((WI.i a:Nat):Int)<4)=false→(4≤List.length (WI.o a)∧∀l:Int,l=List.getD (WI.o a) 0 (0:Int)→∀m:Int,m=List.getD (WI.o a) 1 (0:Int)→∀o:
 Int,o=List.getD (WI.o a) 2 (0:Int)→∀p:Int,p=List.getD (WI.o a) 3 (0:Int)→K (.agg [.int .u64 (.sym l),.int .u64 (.sym m),.int .u64 (.sym o),.int .u64 (.sym p)]) (memL [(513,⟨false,.ints .u64 [a0,a1,a2,a3]⟩),(521,
 ⟨false,.ints .u64 [b0,b1,b2,b3]⟩),(529,⟨false,.cells [.int .u64 (.sym l),.int .u64 (.sym m),.int .u64 (.sym o),.int .u64 (.sym p)]⟩),(545,⟨false,.ints .u64 (WI.o a)⟩)])))):=by kernel_rfl
theorem pow_fact2 {P pO pA pB y c c' ai bi:Int} (e:pO=pA-pB+c*P) (h:y=ai-bi-c+c'*18446744073709551616):
  pO+y*P=pA+ai*P-(pB+bi*P)+c'*(P*18446744073709551616):=by
 have h2:y*P=(ai-bi-c+c'*18446744073709551616)*P:=by rw[h]
 rw[Int.add_mul,Int.sub_mul,Int.sub_mul]at h2
 have h3:c'*(P*18446744073709551616)=c'*18446744073709551616*P:=by rw[Int.mul_comm P,Int.mul_assoc]
 rw[h3]
 omega
theorem dif_step {a b o:List Int} {c c':Int} {i:Nat} {y:Int} (hi:i<o.length) (e:pv o i=pv a i-pv b i+c*18446744073709551616 ^ i) (h:y=a.getD i 0-b.getD i 0-c+c'*18446744073709551616):
  pv (o.set i y) (i+1)=pv a (i+1)-pv b (i+1)+c'*18446744073709551616 ^ (i+1):=by
 rw[pv_set1 y hi,Int.pow_succ]
 exact pow_fact2 e h
theorem wdif_walk (a0 a1 a2 a3 b0 b1 b2 b3:Int) (K:SV→Mem→Prop) (ha:∀x∈[a0,a1,a2,a3],Wd x) (hb:∀x∈[b0,b1,b2,b3],Wd x)
  (hK:∀o0 o1 o2 o3 c m,Wd o0→Wd o1→Wd o2→Wd o3→V4 o0 o1 o2 o3=V4 a0 a1 a2 a3-V4 b0 b1 b2 b3+c*115792089237316195423570985008687907853269984665640564039457584007913129639936→
   K (ag4 o0 o1 o2 o3) m):
  execF cx0 (fun n=>if n=0 then .inv (liDif [a0,a1,a2,a3] [b0,b1,b2,b3])else .un 0) Tryz.f46 64 [ag4 a0 a1 a2 a3,ag4 b0 b1 b2 b3] (memL []) K:=by
 rw[vc_wdif]
 generalize hA: [a0,a1,a2,a3]=A at ha ⊢
 generalize hB: [b0,b1,b2,b3]=B at hb ⊢
 have lA:A.length=4:=by rw[←hA];rfl
 have lB:B.length=4:=by rw[←hB];rfl
 refine ⟨⟨⟨0,0,[0,0,0,0]⟩,⟨Nat.zero_le _,rfl,?_,Int.le_refl _,by decide,rfl⟩,⟨rfl,rfl⟩,rfl,rfl,rfl⟩,?_⟩
 ·intro x hx
  have hx:x∈[0,0,0,0]:=hx
  simp only[List.mem_cons,List.not_mem_nil,or_false,or_self]at hx
  rw[hx]
  exact wd0
 rintro ⟨i,c,o⟩ ⟨hi,ho,hw,hc0,hc1,e⟩
 dsimp only at hi ho hw hc0 hc1 e ⊢
 have hw:∀x∈o,Wd x:=hw
 refine ⟨fun h=> ?_,fun h=> ?_⟩
 ·simp only[decide_eq_true_eq]at h
  simp only[Int.toNat_natCast,Nat.mul_one]
  have hai:=wd_get ha (i:=i)
  have hbi:=wd_get hb (i:=i)
  have ho':i<o.length:=by omega
  refine ⟨⟨by omega,by omega⟩,by omega,?_⟩
  rintro x4 h4
  refine ⟨⟨by omega,by omega⟩,by omega,?_⟩
  rintro x5 h5 x6 h6
  rw[wu64]at h6
  refine ⟨⟨by omega,by omega⟩,by omega,?_⟩
  rintro x7 h7
  refine ⟨⟨by omega,by omega⟩,by omega,?_⟩
  rintro x8 h8
  rw[←h4]at hai h7
  rw[←h5]at hbi h8
  rw[h7,h8]
  unfold Wd at hai hbi
  have fin:∀y c':Int,Wd y→0≤c'→c'≤1→y=x4-x5-c+c'*18446744073709551616→∀x10,x10=IntKind.i64.wrap ((i:Int)+1)→
    ∃w:WI,((w.i≤4∧w.o.length=4∧(∀x,List.Mem x w.o→Wd x)∧0≤w.c∧w.c≤1∧pv w.o w.i=pv A w.i-pv B w.i+w.c*18446744073709551616 ^ w.i)∧(((c'=w.c∧x10=((w.i:Nat):Int))∧True∧True∧o.set i y=w.o)∧4-w.i<4-i)):=by
   intro y c' hy h0 h1 hs x10 h10
   rw[wrap64 (by omega) (by omega)]at h10
   refine ⟨⟨i+1,c',o.set i y⟩,⟨by simp only;omega,by simp only[List.length_set];exact ho,wd_set hw hy,h0,h1,dif_step ho' e (by rw[hs,h4,h5])⟩,⟨⟨rfl,h10.trans (by simp only;omega)⟩,trivial,trivial,rfl⟩,by simp only;omega⟩
  refine ⟨fun hlt=> ?_,fun hlt=> ?_⟩
  all_goals
   simp only[decide_eq_true_eq,decide_eq_false_iff_not]at hlt
   rintro x9 h9
   rw[wu64]at h9
   have hy:Wd x9:=by unfold Wd;omega
   refine ⟨⟨by omega,by omega⟩,by omega,?_⟩
   refine ⟨fun hl2=> ?_,fun hl2=> ?_⟩
   all_goals
    simp only[decide_eq_true_eq,decide_eq_false_iff_not]at hl2
    refine fin x9 _ hy ?_ ?_ ?_
    all_goals omega
 ·simp only[decide_eq_false_iff_not]at h
  have h4:i=4:=by omega
  refine ⟨by omega,?_⟩
  rintro _ rfl _ rfl _ rfl _ rfl
  rw[h4,←hA,←hB,pv4,pv4]at e
  match o,ho,hw,e with
  | [o0,o1,o2,o3],_,hw,e=>
   rw[pv4]at e
   exact hK o0 o1 o2 o3 c _ (hw _ (by simp)) (hw _ (by simp)) (hw _ (by simp)) (hw _ (by simp)) (e.trans rfl)
def rWd:R0:=fun args l=>
 match args,l with
 | [.agg [.int .u64 (.sym a0),.int .u64 (.sym a1),.int .u64 (.sym a2),.int .u64 (.sym a3)],.agg [.int .u64 (.sym b0),.int .u64 (.sym b1),.int .u64 (.sym b2),.int .u64 (.sym b3)]],[]=>
  some (some ((Wd a0∧Wd a1∧Wd a2∧Wd a3)∧Wd b0∧Wd b1∧Wd b2∧Wd b3),
   ag4 (lm (w256 (V4 a0 a1 a2 a3-V4 b0 b1 b2 b3)) 0) (lm (w256 (V4 a0 a1 a2 a3-V4 b0 b1 b2 b3)) 1) (lm (w256 (V4 a0 a1 a2 a3-V4 b0 b1 b2 b3)) 2) (lm (w256 (V4 a0 a1 a2 a3-V4 b0 b1 b2 b3)) 3))
 | _,_=>none
theorem wd_ok (args:List SV) (l:List (Nat×Reg)) (p:Ob) (v:SV) (h:rWd args l=some (p,v)) (hp:p.ok):∃U,execF cx0 U Tryz.f46 64 args (memL l) fun v' _=>v'=v:=by
 unfold rWd at h
 split at h
 ·rename_i a0 a1 a2 a3 b0 b1 b2 b3
  simp only[Option.some.injEq,Prod.mk.injEq]at h
  obtain ⟨rfl,rfl⟩:=h
  obtain ⟨ha,hb⟩:(Wd a0∧Wd a1∧Wd a2∧Wd a3)∧Wd b0∧Wd b1∧Wd b2∧Wd b3:=hp
  refine ⟨_,wdif_walk a0 a1 a2 a3 b0 b1 b2 b3 _ (wds ha) (wds hb) fun o0 o1 o2 o3 c m h0 h1 h2 h3 e=> ?_⟩
  obtain ⟨e0,e1,e2,e3⟩:=w256_of (c:= -c) (s:=V4 a0 a1 a2 a3-V4 b0 b1 b2 b3) h0 h1 h2 h3 (by rw[e,Int.neg_mul];omega)
  rw[←e0,←e1,←e2,←e3]
 ·cases h
def cWd:Rd Tryz.prog:=mkR mixed 46 Tryz.func46 (by decide) (by kernel_rfl) [] [.num,.num] rWd wd_ok
def cxAm:Cx Tryz.prog:= { rds:= [cWs,cLs,cWd],efs:= [],eqs:= [] }
theorem vc_am (a0 a1 a2 a3 b0 b1 b2 b3 m0 m1 m2 m3:Int) (K:SV→Mem→Prop):(execF cxAm u9 Tryz.f37 64 [ag4 a0 a1 a2 a3,ag4 b0 b1 b2 b3,ag4 m0 m1 m2 m3] (memL []) K)=(∀a,a=a0→∀b,b=a1→∀c,c=a2→∀d,d=a3→∀e,e
 =b0→∀f,f=b1→∀g,g=b2→∀h,h=b3→((Wd a∧Wd b∧Wd c∧Wd d)∧Wd e∧Wd f∧Wd g∧Wd h)∧(decide (115792089237316195423570985008687907853269984665640564039457584007913129639936≤V4 a b c d+V4 e f g h)=true→∀i,i
 =lm (w256 (V4 a b c d+V4 e f g h)) 0→∀j,j=lm (w256 (V4 a b c d+V4 e f g h)) 1→∀k,k=lm (w256 (V4 a b c d+V4 e f g h)) 2→∀l,l=lm (w256 (V4 a b c d+V4 e f g h)) 3→∀m,m=m0→∀n,n=m1→∀o,o=m2→∀p,p=
 m3→(((Wd i∧Wd j∧Wd k∧Wd l)∧Wd m∧Wd n∧Wd o∧Wd p)∧∀G,G=lm (w256 (V4 i j k l-V4 m n o p)) 0→∀H,H=lm (w256 (V4 i j k l-V4 m n o p)) 1→∀I,I=lm (w256 (V4 i j k l-V4 m n o p)) 2→∀J,J=lm (w256 (V4 i j
 k l-V4 m n o p)) 3→K (.agg [.int .u64 (.sym G),.int .u64 (.sym H),.int .u64 (.sym I),.int .u64 (.sym J)]) (memL [(513,⟨false,.cells [.int .u64 (.sym a0),.int .u64 (.sym a1),.int .u64 (.sym a2),.int .u64 (.sym a3)]⟩),(521,
 ⟨false,.cells [.int .u64 (.sym b0),.int .u64 (.sym b1),.int .u64 (.sym b2),.int .u64 (.sym b3)]⟩),(529,⟨false,.cells [.int .u64 (.sym m0),.int .u64 (.sym m1),.int .u64 (.sym m2),.int .u64 (.sym m3)]⟩),(537,⟨false,.cells [.int
 .u64 (.sym G),.int .u64 (.sym H),.int .u64 (.sym I),.int .u64 (.sym J)]⟩),(593,⟨false,.cells [.int .u64 (.sym (lm (w256 (V4 a b c d+V4 e f g h)) 0)),.int .u64 (.sym (lm (w256 (V4 a b c d+V4 e f g h)) 1)),.int .u64 (.sym (lm
 (w256 (V4 a b c d+V4 e f g h)) 2)),.int .u64 (.sym (lm (w256 (V4 a b c d+V4 e f g h)) 3))]⟩)])))∧(decide (115792089237316195423570985008687907853269984665640564039457584007913129639936≤V4 a b c d+V4 e f g h)=false→∀y,y=
 lm (w256 (V4 a b c d+V4 e f g h)) 0→∀z,z=lm (w256 (V4 a b c d+V4 e f g h)) 1→∀A,A=lm (w256 (V4 a b c d+V4 e f g h)) 2→∀B,B=lm (w256 (V4 a b c d+V4 e f g h)) 3→∀C,C=m0→∀D,D=m1→∀E,E=m2→∀F,F=
 m3→((Wd y∧Wd z∧Wd A∧Wd B)∧Wd C∧Wd D∧Wd E∧Wd F)∧(Bool.not (decide (V4 y z A B<V4 C D E F))=true→∀q,q=lm (w256 (V4 a b c d+V4 e f g h)) 0→∀r,r=lm (w256 (V4 a b c d+V4 e f g h)) 1→∀s,s=lm (w256 (V4
 a b c d+V4 e f g h)) 2→∀t,t=lm (w256 (V4 a b c d+V4 e f g h)) 3→∀u,u=m0→∀v,v=m1→∀w,w=m2→∀x,x=m3→(((Wd q∧Wd r∧Wd s∧Wd t)∧Wd u∧Wd v∧Wd w∧Wd x)∧∀L,L=lm (w256 (V4 q r s t-V4 u v w x)) 0
 →∀M,M=lm (w256 (V4 q r s t-V4 u v w x)) 1→∀N,N=lm (w256 (V4 q r s t-V4 u v w x)) 2→∀O,O=lm (w256 (V4 q r s t-V4 u v w x)) 3→K (.agg [.int .u64 (.sym L),.int .u64 (.sym M),.int .u64 (.sym N),.int .u64 (.sym O)])
 (memL [(513,⟨false,.cells [.int .u64 (.sym a0),.int .u64 (.sym a1),.int .u64 (.sym a2),.int .u64 (.sym a3)]⟩),(521,⟨false,.cells [.int .u64 (.sym b0),.int .u64 (.sym b1),.int .u64 (.sym b2),.int .u64 (.sym b3)]⟩),(529,⟨false,
 .cells [.int .u64 (.sym m0),.int .u64 (.sym m1),.int .u64 (.sym m2),.int .u64 (.sym m3)]⟩),(537,⟨false,.cells [.int .u64 (.sym L),.int .u64 (.sym M),.int .u64 (.sym N),.int .u64 (.sym O)]⟩),(593,⟨false,.cells [.int .u64 (.sym
 (lm (w256 (V4 a b c d+V4 e f g h)) 0)),.int .u64 (.sym (lm (w256 (V4 a b c d+V4 e f g h)) 1)),.int .u64 (.sym (lm (w256 (V4 a b c d+V4 e f g h)) 2)),.int .u64 (.sym (lm (w256 (V4 a b c d+V4 e f g h)) 3))]⟩)])))∧(Bool.not
 (decide (V4 y z A B<V4 C D E F))=false→∀Q,Q=lm (w256 (V4 a b c d+V4 e f g h)) 0→∀R,R=lm (w256 (V4 a b c d+V4 e f g h)) 1→∀S,S=lm (w256 (V4 a b c d+V4 e f g h)) 2→∀T,T=lm (w256 (V4 a b c d+V4 e f g h)) 3
 →K (.agg [.int .u64 (.sym Q),.int .u64 (.sym R),.int .u64 (.sym S),.int .u64 (.sym T)]) (memL [(513,⟨false,.cells [.int .u64 (.sym a0),.int .u64 (.sym a1),.int .u64 (.sym a2),.int .u64 (.sym a3)]⟩),(521,⟨false,.cells [.int .u64
 (.sym b0),.int .u64 (.sym b1),.int .u64 (.sym b2),.int .u64 (.sym b3)]⟩),(529,⟨false,.cells [.int .u64 (.sym m0),.int .u64 (.sym m1),.int .u64 (.sym m2),.int .u64 (.sym m3)]⟩),(537,⟨false,.cells [.int .u64 (.sym Q),.int .u64
 (.sym R),.int .u64 (.sym S),.int .u64 (.sym T)]⟩),(593,⟨false,.cells [.int .u64 (.sym (lm (w256 (V4 a b c d+V4 e f g h)) 0)),.int .u64 (.sym (lm (w256 (V4 a b c d+V4 e f g h)) 1)),.int .u64 (.sym (lm (w256 (V4 a b c d+V4 e f g
 h)) 2)),.int .u64 (.sym (lm (w256 (V4 a b c d+V4 e f g h)) 3))]⟩)])))):=by kernel_rfl
theorem w256_lt (s:Int):w256 s<2 ^ 256:=by unfold w256;omega
theorem w256_V4 (s:Int):V4 (lm (w256 s) 0) (lm (w256 s) 1) (lm (w256 s) 2) (lm (w256 s) 3)=(w256 s:Int):=lm_val (w256_lt s)
theorem am_sub {S M:Int} (h0:M≤S) (h1:S<2*M):S%M=S-M:=by
 rw[←Int.sub_emod_right,Int.emod_eq_of_lt (by omega) (by omega)]
theorem am1 {S M:Int} (hM:M<115792089237316195423570985008687907853269984665640564039457584007913129639936) (h1:S<2*M) (h2:115792089237316195423570985008687907853269984665640564039457584007913129639936≤S):w256 ((w256 S:Int)-M)=(S%M).toNat:=by
 rw[am_sub (by omega) h1]
 unfold w256
 omega
theorem am2 {S M:Int} (h0:0≤S) (h1:S<2*M) (h2:¬115792089237316195423570985008687907853269984665640564039457584007913129639936≤S) (h3:¬(w256 S:Int)<M):w256 ((w256 S:Int)-M)=(S%M).toNat:=by
 have:(w256 S:Int)=S:=by unfold w256;omega
 rw[this]at h3 ⊢
 rw[am_sub (by omega) h1]
 unfold w256
 omega
theorem am3 {S M:Int} (h0:0≤S) (h2:¬115792089237316195423570985008687907853269984665640564039457584007913129639936≤S) (h3:(w256 S:Int)<M):w256 S=(S%M).toNat:=by
 have:(w256 S:Int)=S:=by unfold w256;omega
 rw[this]at h3
 rw[Int.emod_eq_of_lt h0 h3]
 omega
def rAm:R0:=fun args l=>
 match args,l with
 | [.agg [.int .u64 (.sym a0),.int .u64 (.sym a1),.int .u64 (.sym a2),.int .u64 (.sym a3)],.agg [.int .u64 (.sym b0),.int .u64 (.sym b1),.int .u64 (.sym b2),.int .u64 (.sym b3)],.agg [.int .u64 (.sym m0),.int .u64 (.sym m1),.int .u64 (.sym m2),.int .u64 (.sym m3)]],[]=>
  some (some (((Wd a0∧Wd a1∧Wd a2∧Wd a3)∧(Wd b0∧Wd b1∧Wd b2∧Wd b3)∧Wd m0∧Wd m1∧Wd m2∧Wd m3)∧V4 a0 a1 a2 a3<V4 m0 m1 m2 m3∧V4 b0 b1 b2 b3<V4 m0 m1 m2 m3),
   ag4 (lm ((V4 a0 a1 a2 a3+V4 b0 b1 b2 b3)%V4 m0 m1 m2 m3).toNat 0) (lm ((V4 a0 a1 a2 a3+V4 b0 b1 b2 b3)%V4 m0 m1 m2 m3).toNat 1) (lm ((V4 a0 a1 a2 a3+V4 b0 b1 b2 b3)%V4 m0 m1 m2 m3).toNat 2) (lm ((V4 a0 a1 a2 a3+V4 b0 b1 b2 b3)%V4 m0 m1 m2 m3).toNat 3))
 | _,_=>none
theorem am_ok (args:List SV) (l:List (Nat×Reg)) (p:Ob) (v:SV) (h:rAm args l=some (p,v)) (hp:p.ok):∃U,execF cxAm U Tryz.f37 64 args (memL l) fun v' _=>v'=v:=by
 unfold rAm at h
 split at h
 ·rename_i a0 a1 a2 a3 b0 b1 b2 b3 m0 m1 m2 m3
  simp only[Option.some.injEq,Prod.mk.injEq]at h
  obtain ⟨rfl,rfl⟩:=h
  obtain ⟨⟨ha,hb,hm⟩,hA,hB⟩:((Wd a0∧Wd a1∧Wd a2∧Wd a3)∧(Wd b0∧Wd b1∧Wd b2∧Wd b3)∧Wd m0∧Wd m1∧Wd m2∧Wd m3)∧V4 a0 a1 a2 a3<V4 m0 m1 m2 m3∧V4 b0 b1 b2 b3<V4 m0 m1 m2 m3:=hp
  have nA:=V4_nonneg ha.1 ha.2.1 ha.2.2.1 ha.2.2.2
  have nB:=V4_nonneg hb.1 hb.2.1 hb.2.2.1 hb.2.2.2
  have lM:=V4_lt hm.1 hm.2.1 hm.2.2.1 hm.2.2.2
  have W:∀s i,Wd (lm s i):=lm_wd
  refine ⟨u9,?_⟩
  have:=vc_am a0 a1 a2 a3 b0 b1 b2 b3 m0 m1 m2 m3 fun v' _=>v'=ag4 (lm ((V4 a0 a1 a2 a3+V4 b0 b1 b2 b3)%V4 m0 m1 m2 m3).toNat 0) (lm ((V4 a0 a1 a2 a3+V4 b0 b1 b2 b3)%V4 m0 m1 m2 m3).toNat 1) (lm ((V4 a0 a1 a2 a3+V4 b0 b1 b2 b3)%V4 m0 m1 m2 m3).toNat 2) (lm ((V4 a0 a1 a2 a3+V4 b0 b1 b2 b3)%V4 m0 m1 m2 m3).toNat 3)
  unfold ag4 at this
  refine this.mpr ?_
  clear this
  rintro _ rfl _ rfl _ rfl _ rfl _ rfl _ rfl _ rfl _ rfl
  refine ⟨⟨ha,hb⟩,fun h=> ?_,fun h=> ?_⟩
  ·simp only[decide_eq_true_eq]at h
   rintro _ rfl _ rfl _ rfl _ rfl _ rfl _ rfl _ rfl _ rfl
   refine ⟨⟨⟨W _ _,W _ _,W _ _,W _ _⟩,hm⟩,?_⟩
   rintro _ rfl _ rfl _ rfl _ rfl
   rw[w256_V4,am1 lM (by omega) h]
  ·simp only[decide_eq_false_iff_not]at h
   rintro _ rfl _ rfl _ rfl _ rfl _ rfl _ rfl _ rfl _ rfl
   refine ⟨⟨⟨W _ _,W _ _,W _ _,W _ _⟩,hm⟩,fun h2=> ?_,fun h2=> ?_⟩
   ·rw[w256_V4]at h2
    rintro _ rfl _ rfl _ rfl _ rfl _ rfl _ rfl _ rfl _ rfl
    refine ⟨⟨⟨W _ _,W _ _,W _ _,W _ _⟩,hm⟩,?_⟩
    rintro _ rfl _ rfl _ rfl _ rfl
    rw[w256_V4,am2 (by omega) (by omega) h (by simpa using h2)]
   ·rw[w256_V4]at h2
    rintro _ rfl _ rfl _ rfl _ rfl
    rw[am3 (by omega) h (by simpa using h2)]
 ·cases h
def cAm:Rd Tryz.prog:=mkR mixed 37 Tryz.func37 (by decide) (by kernel_rfl) [] [.num,.num,.num] rAm am_ok
def cxAd:Cx Tryz.prog:= { rds:= [cPP,cAm],efs:= [],eqs:= [] }
theorem vc_ad (a0 a1 a2 a3 b0 b1 b2 b3:Int) (K:SV→Mem→Prop):(execF cxAd u9 Tryz.f16 64 [ag4 a0 a1 a2 a3,ag4 b0 b1 b2 b3] (memL []) K)=(∀a,a=a0→∀b,b=a1→∀c,c=a2→∀d,d=a3→∀e,e=b0→∀f,f=b1→∀g,g=
 b2→∀h,h=b3→((((Wd a∧Wd b∧Wd c∧Wd d)∧(Wd e∧Wd f∧Wd g∧Wd h)∧Wd (4332616871279656263:Int)∧Wd (10917124144477883021:Int)∧Wd (13281191951274694749:Int)∧Wd (3486998266802970665:Int))∧V4 a b c d <
 21888242871839275222246405745257275088696311157297823662689037894645226208583∧V4 e f g h<21888242871839275222246405745257275088696311157297823662689037894645226208583)∧∀i,i=lm (Int.toNat ((V4 a b c d+V4 e f g h) %
 21888242871839275222246405745257275088696311157297823662689037894645226208583)) 0→∀j,j=lm (Int.toNat ((V4 a b c d+V4 e f g h)%21888242871839275222246405745257275088696311157297823662689037894645226208583)) 1→∀k,k=lm
 (Int.toNat ((V4 a b c d+V4 e f g h)%21888242871839275222246405745257275088696311157297823662689037894645226208583)) 2→∀l,l=lm (Int.toNat ((V4 a b c d+V4 e f g h) %
 21888242871839275222246405745257275088696311157297823662689037894645226208583)) 3→K (.agg [.int .u64 (.sym i),.int .u64 (.sym j),.int .u64 (.sym k),.int .u64 (.sym l)]) (memL [(513,⟨false,.cells [.int .u64 (.sym a0),.int .u64 (.sym
 a1),.int .u64 (.sym a2),.int .u64 (.sym a3)]⟩),(521,⟨false,.cells [.int .u64 (.sym b0),.int .u64 (.sym b1),.int .u64 (.sym b2),.int .u64 (.sym b3)]⟩),(529,⟨false,.cells [.int .u64 (.sym i),.int .u64 (.sym j),.int .u64 (.sym
 k),.int .u64 (.sym l)]⟩)]))):=by kernel_rfl
def rAd:R0:=fun args l=>
 match args,l with
 | [.agg [.int .u64 (.sym a0),.int .u64 (.sym a1),.int .u64 (.sym a2),.int .u64 (.sym a3)],.agg [.int .u64 (.sym b0),.int .u64 (.sym b1),.int .u64 (.sym b2),.int .u64 (.sym b3)]],[]=>
  some (some (((Wd a0∧Wd a1∧Wd a2∧Wd a3)∧(Wd b0∧Wd b1∧Wd b2∧Wd b3))∧V4 a0 a1 a2 a3<21888242871839275222246405745257275088696311157297823662689037894645226208583∧V4 b0 b1 b2 b3<21888242871839275222246405745257275088696311157297823662689037894645226208583),
   ag4 (lm ((V4 a0 a1 a2 a3+V4 b0 b1 b2 b3)%21888242871839275222246405745257275088696311157297823662689037894645226208583).toNat 0) (lm ((V4 a0 a1 a2 a3+V4 b0 b1 b2 b3)%21888242871839275222246405745257275088696311157297823662689037894645226208583).toNat 1) (lm ((V4 a0 a1 a2 a3+V4 b0 b1 b2 b3)%21888242871839275222246405745257275088696311157297823662689037894645226208583).toNat 2) (lm ((V4 a0 a1 a2 a3+V4 b0 b1 b2 b3)%21888242871839275222246405745257275088696311157297823662689037894645226208583).toNat 3))
 | _,_=>none
theorem ad_ok (args:List SV) (l:List (Nat×Reg)) (p:Ob) (v:SV) (h:rAd args l=some (p,v)) (hp:p.ok):∃U,execF cxAd U Tryz.f16 64 args (memL l) fun v' _=>v'=v:=by
 unfold rAd at h
 split at h
 ·rename_i a0 a1 a2 a3 b0 b1 b2 b3
  simp only[Option.some.injEq,Prod.mk.injEq]at h
  obtain ⟨rfl,rfl⟩:=h
  obtain ⟨⟨ha,hb⟩,hA,hB⟩:((Wd a0∧Wd a1∧Wd a2∧Wd a3)∧(Wd b0∧Wd b1∧Wd b2∧Wd b3))∧V4 a0 a1 a2 a3<21888242871839275222246405745257275088696311157297823662689037894645226208583∧V4 b0 b1 b2 b3<21888242871839275222246405745257275088696311157297823662689037894645226208583:=hp
  refine ⟨u9,?_⟩
  have:=vc_ad a0 a1 a2 a3 b0 b1 b2 b3 fun v' _=>v'=ag4 (lm ((V4 a0 a1 a2 a3+V4 b0 b1 b2 b3)%21888242871839275222246405745257275088696311157297823662689037894645226208583).toNat 0) (lm ((V4 a0 a1 a2 a3+V4 b0 b1 b2 b3)%21888242871839275222246405745257275088696311157297823662689037894645226208583).toNat 1) (lm ((V4 a0 a1 a2 a3+V4 b0 b1 b2 b3)%21888242871839275222246405745257275088696311157297823662689037894645226208583).toNat 2) (lm ((V4 a0 a1 a2 a3+V4 b0 b1 b2 b3)%21888242871839275222246405745257275088696311157297823662689037894645226208583).toNat 3)
  unfold ag4 at this
  refine this.mpr ?_
  clear this
  rintro _ rfl _ rfl _ rfl _ rfl _ rfl _ rfl _ rfl _ rfl
  refine ⟨⟨⟨ha,hb,wdq0,wdq1,wdq2,wdq3⟩,hA,hB⟩,?_⟩
  rintro _ rfl _ rfl _ rfl _ rfl
  rfl
 ·cases h
def cAd:Rd Tryz.prog:=mkR mixed 16 Tryz.func16 (by decide) (by kernel_rfl) [] [.num,.num] rAd ad_ok
def cxMm:Cx Tryz.prog:= { rds:= [cLs,cWd],efs:= [],eqs:= [] }
def dv:List Int→Int
 | []=>0
 | d::l=>d+4294967296*dv l
structure MoI where
 i:Nat
 d:List Int
def lowD (x:Nat) (i:Nat):Int:=((x%4294967296 ^ i:Nat):Int)
def digs (d:List Int) (n:Nat):Prop:=d.length=17∧(∀x∈d,0≤x∧x<4294967296)∧∀j,n≤j→d.getD j 0=0
def liMo (a b:List Int) (x y:Nat):LI where
 ι:=MoI
 keep:= [3,4,5,6,7]
 keepR:= [529,537]
 F:=fun s=>⟨[(8,i64n s.i)],[(513,⟨false,.ints .u64 a⟩),(521,⟨false,.ints .u64 b⟩),(553,⟨false,.ints .u64 s.d⟩)]⟩
 I:=fun _ s=>s.i≤8∧digs s.d (s.i+8)∧dv s.d=lowD x s.i*y
 μ:=fun s=>8-s.i
structure MiI where
 k:Nat
 c:Int
 d:List Int
def liMi (y:Nat):LI where
 ι:=MiI
 keep:= [3,4,5,6,7,8,9]
 keepR:= [513,521,529,537]
 F:=fun s=>⟨[(10,.int .u64 (.sym s.c)),(11,i64n s.k)],[(553,⟨false,.ints .u64 s.d⟩)]⟩
 I:=fun st s=>s.k≤8∧digs s.d ((st.int 8).toNat+8)∧0≤s.c∧s.c<4294967296∧dv s.d+s.c*4294967296 ^ ((st.int 8).toNat+s.k)=dv (st.reg 553)+st.int 9*lowD y s.k*4294967296 ^ (st.int 8).toNat
 μ:=fun s=>8-s.k
structure MsI where
 n:Nat
 r:Nat
def liMs (M:Nat):LI where
 ι:=MsI
 keep:= [5,6,7,14]
 keepR:= [529,537,553]
 F:=fun s=>⟨[(15,.int .i64 (.sym ((s.n:Nat)-1)))],[(601,⟨false,e4 s.r⟩)]⟩
 I:=fun st s=>s.n≤512∧s.r=(dv (st.reg 553)).toNat / 2 ^ s.n%M
 μ:=fun s=>s.n
def uMm (a b:List Int) (X Y M:Nat):Nat→Lp:=fun n=>match n with | 0=> .inv (liMo a b X Y) | 2=> .inv (liMi Y) | 4=> .inv (liMs M) | _=> .un 4
end Go.Sx
namespace Go.Sx
open Go
theorem dv_set:∀(d:List Int) (p:Nat) (v:Int),p<d.length→dv (d.set p v)=dv d+(v-d.getD p 0)*4294967296 ^ p
 | [],_,_,h=>absurd h (Nat.not_lt_zero _)
 | x::l,0,v,_=>by
  show v+4294967296*dv l=x+4294967296*dv l+(v-x)*4294967296 ^ 0
  rw[Int.pow_zero,Int.mul_one]
  omega
 | x::l,p+1,v,h=>by
  have ih:=dv_set l p v (by simpa using h)
  show x+4294967296*dv (l.set p v)=x+4294967296*dv l+(v-l.getD p 0)*4294967296 ^ (p+1)
  rw[ih,Int.pow_succ,Int.mul_add]
  have:(v-l.getD p 0)*(4294967296 ^ p*4294967296)=4294967296*((v-l.getD p 0)*4294967296 ^ p):=by
   rw[←Int.mul_assoc,Int.mul_comm]
  rw[this]
  omega
theorem lowD_succ (x i:Nat):lowD x (i+1)=lowD x i+((x / 4294967296 ^ i%4294967296:Nat):Int)*4294967296 ^ i:=by
 unfold lowD
 rw[Nat.mod_pow_succ,Int.natCast_add,Int.natCast_mul,Int.mul_comm,Int.natCast_pow]
 rfl
theorem lowD_zero (x:Nat):lowD x 0=0:=by
 unfold lowD
 rw[Nat.pow_zero,Nat.mod_one]
 rfl
theorem lowD_all {x:Nat} (h:x<2 ^ 256):lowD x 8=x:=by
 unfold lowD
 rw[Nat.mod_eq_of_lt h]
theorem dv_nonneg:∀ {d:List Int},(∀x∈d,0≤x∧x<4294967296)→0≤dv d
 | [],_=>Int.le_refl _
 | x::l,h=>by
  have:=dv_nonneg (d:=l) fun y hy=>h y (List.mem_cons_of_mem _ hy)
  have:=(h x List.mem_cons_self).1
  show 0≤x+4294967296*dv l
  omega
theorem dv_getD:∀ {d:List Int},(∀x∈d,0≤x∧x<4294967296)→∀p,(d.getD p 0:Int)=(((dv d).toNat / 4294967296 ^ p%4294967296:Nat):Int)
 | [],_,p=>by
  show (0:Int)=((0 / 4294967296 ^ p%4294967296:Nat):Int)
  rw[Nat.zero_div]
  rfl
 | x::l,h,0=>by
  have h0:=dv_nonneg (d:=l) fun y hy=>h y (List.mem_cons_of_mem _ hy)
  have h1:=h x List.mem_cons_self
  show x=(((x+4294967296*dv l).toNat / 4294967296 ^ 0%4294967296:Nat):Int)
  rw[Nat.pow_zero,Nat.div_one]
  omega
 | x::l,h,p+1=>by
  have h0:=dv_nonneg (d:=l) fun y hy=>h y (List.mem_cons_of_mem _ hy)
  have h1:=h x List.mem_cons_self
  have ih:=dv_getD (d:=l) (fun y hy=>h y (List.mem_cons_of_mem _ hy)) p
  show l.getD p 0=(((x+4294967296*dv l).toNat / 4294967296 ^ (p+1)%4294967296:Nat):Int)
  rw[ih,Nat.pow_succ',←Nat.div_div_eq_div_mul]
  have:(x+4294967296*dv l).toNat / 4294967296=(dv l).toNat:=by omega
  rw[this]
theorem half_of {x i:Nat}:(x / 18446744073709551616 ^ (i / 2)%18446744073709551616) / 2 ^ (32*(i%2))%4294967296=x / 4294967296 ^ i%4294967296:=by
 have e:4294967296 ^ i=18446744073709551616 ^ (i / 2)*2 ^ (32*(i%2)):=by
  rw[show (18446744073709551616:Nat)=2 ^ 64 by decide,show (4294967296:Nat)=2 ^ 32 by decide,←Nat.pow_mul,←Nat.pow_mul,←Nat.pow_add]
  congr 1
  omega
 rw[e,←Nat.div_div_eq_div_mul]
 generalize x / 18446744073709551616 ^ (i / 2)=q
 rcases Nat.mod_two_eq_zero_or_one i with h | h
 ·rw[h];simp only[Nat.mul_zero,Nat.pow_zero,Nat.div_one];omega
 ·rw[h];simp only[Nat.mul_one,Nat.reducePow];omega
theorem prod_eq {d t P dvi:Int}:dvi+(t%4294967296-d)*P+(t / 4294967296)*(P*4294967296)=dvi+(t-d)*P:=by
 have h:(t / 4294967296)*(P*4294967296)=(t / 4294967296*4294967296)*P:=by rw[Int.mul_comm P,Int.mul_assoc]
 rw[h,Int.add_assoc,←Int.add_mul]
 congr 2
 omega
theorem bit_of {D n:Nat}:(D / 4294967296 ^ (n / 32)%4294967296) / 2 ^ (n%32)%2=D / 2 ^ n%2:=by
 have e:2 ^ n=4294967296 ^ (n / 32)*2 ^ (n%32):=by
  rw[show (4294967296:Nat)=2 ^ 32 by decide,←Nat.pow_mul,←Nat.pow_add]
  congr 1
  omega
 rw[e,←Nat.div_div_eq_div_mul]
 generalize D / 4294967296 ^ (n / 32)=q
 have hs:n%32<32:=Nat.mod_lt _ (by decide)
 generalize n%32=s at hs
 have e2:(4294967296:Nat)=2 ^ s*(2*2 ^ (31-s)):=by
  rw[←Nat.pow_succ',←Nat.pow_add,show s+(31-s+1)=32 by omega]
 rw[e2,Nat.mod_mul_right_div_self,Nat.mod_mul_right_mod]
theorem rest_succ {D n M:Nat} (hM:0<M):(2*(D / 2 ^ (n+1)%M)+D / 2 ^ n%2)%M=D / 2 ^ n%M:=by
 have e:D / 2 ^ n=2*(D / 2 ^ (n+1))+D / 2 ^ n%2:=by
  rw[Nat.pow_succ,←Nat.div_div_eq_div_mul]
  omega
 conv=>rhs;rw[e]
 rw[Nat.add_mod,Nat.mul_mod,Nat.mod_mod,←Nat.mul_mod,←Nat.add_mod]
end Go.Sx
namespace Go.Sx
open Go
set_option maxRecDepth 100000
theorem elW_getD (X:Nat):∀k,k<4→[lm X 0,lm X 1,lm X 2,lm X 3].getD k 0=lm X k
 | 0,_=>rfl
 | 1,_=>rfl
 | 2,_=>rfl
 | 3,_=>rfl
 | k+4,h=>absurd h (by omega)
theorem dig_of {X i:Nat} (hi:i<8) {x2 x3 x4 x5 x6 x7:Int} (h2:x2=IntKind.i64.wrap (Int.tdiv (i:Int) 2)) (h3:x3= [lm X 0,lm X 1,lm X 2,lm X 3].getD (x2.toNat*1) 0) (h4:x4=Int.tmod (i:Int) 2) (h5:x5=IntKind.i64.wrap (32*x4))
  (h6:x6=shrv .u64 x3 x5.toNat) (h7:x7=Int.tmod x6 4294967296):(0≤x2∧x2<4)∧0≤x5∧x7=((X / 4294967296 ^ i%4294967296:Nat):Int):=by
 rw[Int.tdiv_eq_ediv_of_nonneg (by omega),wrap64 (by omega) (by omega)]at h2
 rw[Int.tmod_eq_emod_of_nonneg (by omega)]at h4
 rw[wrap64 (by omega) (by omega)]at h5
 have e2:x2.toNat=i / 2:=by omega
 have e5:x5.toNat=32*(i%2):=by omega
 rw[e2,Nat.mul_one,elW_getD X _ (by omega)]at h3
 rw[e5,h3,shr64 (lm_wd _ _).1 (by omega)]at h6
 have e6:x6=((X / 18446744073709551616 ^ (i / 2)%18446744073709551616 / 2 ^ (32*(i%2)):Nat):Int):=by
  rw[h6]
  unfold lm
  rw[Int.natCast_ediv,Int.natCast_pow]
  rfl
 rw[Int.tmod_eq_emod_of_nonneg (by rw[e6];exact Int.natCast_nonneg _)]at h7
 refine ⟨by omega,by omega,?_⟩
 rw[h7,e6,←half_of]
 rfl
theorem mul_lt32 {x y:Int} (hx:0≤x∧x<4294967296) (hy:0≤y∧y<4294967296):0≤x*y∧x*y≤18446744065119617025:=by
 refine ⟨Int.mul_nonneg hx.1 hy.1,?_⟩
 have h1:x*y≤4294967295*y:=Int.mul_le_mul_of_nonneg_right (by omega) hy.1
 omega
theorem digs_get {d:List Int} {n:Nat} (h:digs d n) (j:Nat):0≤d.getD j 0∧d.getD j 0<4294967296:=by
 rw[List.getD_eq_getElem?_getD]
 cases e:d[j]? with
 | none=>exact ⟨Int.le_refl _,by decide⟩
 | some x=>exact h.2.1 x (List.mem_of_getElem? e)
theorem digs_set {d:List Int} {n p:Nat} {v:Int} (h:digs d n) (hv:0≤v∧v<4294967296) (hp:p<n):digs (d.set p v) n:=by
 refine ⟨by rw[List.length_set];exact h.1,?_,?_⟩
 ·intro x hx
  rcases List.mem_or_eq_of_mem_set hx with h1 | h1
  ·exact h.2.1 x h1
  ·rw[h1];exact hv
 ·intro j hj
  rw[List.getD_eq_getElem?_getD,List.getElem?_set_ne (by omega),←List.getD_eq_getElem?_getD]
  exact h.2.2 j hj
theorem in_step {d:List Int} {i k n Y:Nat} {c x y x16 x17 x18 x19 x20 x21 x22 x23 D0:Int} (hd:digs d n) (hn:n=i+8) (hi:i<8) (hk:k<8) (hc0:0≤c) (hc1:c<4294967296) (hx:0≤x∧x<4294967296)
  (hy:y=((Y / 4294967296 ^ k%4294967296:Nat):Int)) (e:dv d+c*4294967296 ^ (i+k)=D0+x*lowD Y k*4294967296 ^ i)
  (h16:x16=IntKind.i64.wrap ((i:Int)+(k:Int))) (h17:x17=d.getD (x16.toNat*1) 0) (h18:x18=IntKind.u64.wrap (x*y)) (h19:x19=IntKind.u64.wrap (x17+x18)) (h20:x20=IntKind.u64.wrap (x19+c))
  (h21:x21=IntKind.i64.wrap ((i:Int)+(k:Int))) (h22:x22=Int.tmod x20 4294967296) (h23:x23=IntKind.u64.wrap (Int.tdiv x20 4294967296)):
  (0≤x16∧x16<17)∧x16.toNat*1+1≤d.length∧(0≤x21∧x21<17)∧x21.toNat*1<d.length∧digs (d.set (x21.toNat*1) x22) n∧0≤x23∧x23<4294967296∧
   dv (d.set (x21.toNat*1) x22)+x23*4294967296 ^ (i+(k+1))=D0+x*lowD Y (k+1)*4294967296 ^ i:=by
 rw[wrap64 (by omega) (by omega)]at h16 h21
 have e16:x16.toNat=i+k:=by omega
 have e21:x21.toNat=i+k:=by omega
 rw[e16,Nat.mul_one]at h17
 have g:=digs_get hd (i+k)
 rw[←h17]at g
 have hy':0≤y∧y<4294967296:=by rw[hy];omega
 obtain ⟨p0,p1⟩:=mul_lt32 hx hy'
 rw[wu64]at h18 h19 h20 h23
 generalize hp:x*y=p at h18 p0 p1
 have t:x20=x17+p+c:=by omega
 rw[Int.tmod_eq_emod_of_nonneg (by omega)]at h22
 rw[Int.tdiv_eq_ediv_of_nonneg (by omega)]at h23
 have h23':x23=x20 / 4294967296:=by omega
 have hl:=hd.1
 have h22b:0≤x22∧x22<4294967296:=by omega
 refine ⟨by omega,by omega,by omega,by omega,?_,by omega,by omega,?_⟩
 ·rw[e21,Nat.mul_one]
  exact digs_set hd h22b (by omega)
 ·rw[e21,Nat.mul_one,dv_set d (i+k) x22 (by omega),←h17,h22,h23',show i+(k+1)=i+k+1 by omega,Int.pow_succ,prod_eq,lowD_succ,←hy,t,
   show x17+p+c-x17=p+c by omega,←hp,Int.mul_add,Int.add_mul,Int.add_mul]
  have e3:x*(y*4294967296 ^ k)*4294967296 ^ i=x*y*4294967296 ^ (i+k):=by
   rw[Int.pow_add,←Int.mul_assoc x y,Int.mul_assoc (x*y),Int.mul_comm (4294967296 ^ k)]
  rw[e3]
  omega
theorem shl1 (x:Int):shlv .u64 x 1=x*2%18446744073709551616:=by
 unfold shlv
 rw[wu64,show min 1 IntKind.u64.bits=1 by simp[IntKind.bits],Int.pow_one]
theorem shr63 {x:Int} (h:0≤x):shrv .u64 x 63=x / 9223372036854775808:=by
 rw[shr64 h (by omega)]
 rfl
theorem dbl_eq {a0 a1 a2 a3 b y0 y1 y2 y3 h:Int} (w0:Wd a0) (w1:Wd a1) (w2:Wd a2) (w3:Wd a3) (hb:0≤b∧b<2) (e0:y0=(a0*2%18446744073709551616+b)%18446744073709551616)
  (e1:y1=(a1*2%18446744073709551616+a0 / 9223372036854775808)%18446744073709551616) (e2:y2=(a2*2%18446744073709551616+a1 / 9223372036854775808)%18446744073709551616)
  (e3:y3=(a3*2%18446744073709551616+a2 / 9223372036854775808)%18446744073709551616) (eh:h=a3 / 9223372036854775808):
  (Wd y0∧Wd y1∧Wd y2∧Wd y3)∧(h=0∨h=1)∧V4 y0 y1 y2 y3+h*115792089237316195423570985008687907853269984665640564039457584007913129639936=2*V4 a0 a1 a2 a3+b:=by
 unfold Wd at *
 have f0:y0=a0*2+b-(a0 / 9223372036854775808)*18446744073709551616:=by omega
 have f1:y1=a1*2+a0 / 9223372036854775808-(a1 / 9223372036854775808)*18446744073709551616:=by omega
 have f2:y2=a2*2+a1 / 9223372036854775808-(a2 / 9223372036854775808)*18446744073709551616:=by omega
 have f3:y3=a3*2+a2 / 9223372036854775808-(a3 / 9223372036854775808)*18446744073709551616:=by omega
 refine ⟨by omega,by omega,?_⟩
 rw[f0,f1,f2,f3,eh]
 unfold V4
 generalize a0 / 9223372036854775808=c0
 generalize a1 / 9223372036854775808=c1
 generalize a2 / 9223372036854775808=c2
 generalize a3 / 9223372036854775808=c3
 omega
theorem ms_step {D M p r:Nat} {y0 y1 y2 y3 h:Int} (hM:0<M) (hlM:M<115792089237316195423570985008687907853269984665640564039457584007913129639936) (hr:r=D / 2 ^ (p+1)%M) (w:Wd y0∧Wd y1∧Wd y2∧Wd y3) (hh:h=0∨h=1)
  (e:V4 y0 y1 y2 y3+h*115792089237316195423570985008687907853269984665640564039457584007913129639936=2*(r:Int)+((D / 2 ^ p%2:Nat):Int)):
  ((h=1∨¬V4 y0 y1 y2 y3<M)→w256 (V4 y0 y1 y2 y3-M)=D / 2 ^ p%M)∧(h=0→V4 y0 y1 y2 y3<M→y0=lm (D / 2 ^ p%M) 0∧y1=lm (D / 2 ^ p%M) 1∧y2=lm (D / 2 ^ p%M) 2∧y3=lm (D / 2 ^ p%M) 3):=by
 obtain ⟨w0,w1,w2,w3⟩:=w
 have rs:=rest_succ (D:=D) (n:=p) hM
 have hlt:r<M:=by rw[hr];exact Nat.mod_lt _ hM
 rw[←hr]at rs
 rw[←rs]
 have hb:D / 2 ^ p%2<2:=Nat.mod_lt _ (by decide)
 generalize D / 2 ^ p%2=b at *
 have n0:=V4_nonneg w0 w1 w2 w3
 have n1:=V4_lt w0 w1 w2 w3
 constructor
 ·intro hc
  have hge:M≤2*r+b:=by omega
  rw[Nat.mod_eq_sub_mod hge,Nat.mod_eq_of_lt (by omega)]
  unfold w256
  omega
 ·intro h0 hc
  have:2*r+b<M:=by omega
  rw[Nat.mod_eq_of_lt this]
  exact lm_of w0 w1 w2 w3 (by omega)
theorem ms_zero {D M n x:Nat} (h:D=x) (hlt:x<2 ^ n):0=D / 2 ^ n%M:=by
 rw[h,Nat.div_eq_of_lt hlt,Nat.zero_mod]
theorem bit_fetch {d:List Int} {n:Nat} (hd:∀x∈d,0≤x∧x<4294967296) (hn:1≤n) (hn2:n≤512) {x42 x43 x44 x45 x46:Int} (h42:x42=IntKind.i64.wrap (Int.tdiv ((n:Int)-1) 32)) (h43:x43=d.getD (x42.toNat*1) 0)
  (h44:x44=Int.tmod ((n:Int)-1) 32) (h45:x45=shrv .u64 x43 x44.toNat) (h46:x46=Int.tmod x45 2):
  (0≤x42∧x42<17)∧0≤x44∧x46=(((dv d).toNat / 2 ^ (n-1)%2:Nat):Int):=by
 rw[Int.tdiv_eq_ediv_of_nonneg (by omega),wrap64 (by omega) (by omega)]at h42
 rw[Int.tmod_eq_emod_of_nonneg (by omega)]at h44
 have e42:x42.toNat=(n-1) / 32:=by omega
 have e44:x44.toNat=(n-1)%32:=by omega
 rw[e42,Nat.mul_one,dv_getD hd]at h43
 rw[e44,h43,shr64 (Int.natCast_nonneg _) (by omega)]at h45
 have e45:x45=((((dv d).toNat / 4294967296 ^ ((n-1) / 32)%4294967296) / 2 ^ ((n-1)%32):Nat):Int):=by
  rw[h45,Int.natCast_ediv,Int.natCast_pow]
  rfl
 rw[Int.tmod_eq_emod_of_nonneg (by rw[e45];exact Int.natCast_nonneg _)]at h46
 refine ⟨by omega,by omega,?_⟩
 rw[h46,e45,←bit_of]
 rfl
end Go.Sx
namespace Go.Sx
open Go Go.Proofs
set_option maxRecDepth 100000
theorem vc_mm (X Y M:Nat) (a0 a1 a2 a3 b0 b1 b2 b3 m0 m1 m2 m3:Int) (K:SV→Mem→Prop):(execF cxMm (uMm [a0,a1,a2,a3] [b0,b1,b2,b3] X Y M) Tryz.f38 64 [ag4 a0 a1 a2 a3,ag4 b0 b1 b2 b3,ag4 m0 m1 m2 m3] (memL []) K)=((∃l:MoI,
 (MoI.i l≤8∧digs (MoI.d l) (MoI.i l+8)∧dv (MoI.d l)=lowD X (MoI.i l)*((Y:Nat):Int))∧0=((MoI.i l:Nat):Int)∧(m0=m0∧m1=m1∧m2=m2∧m3=m3)∧[a0,a1,a2,a3]= [a0,a1,a2,a3]∧[b0,b1,b2,b3]= [b0,b1,
 b2,b3]∧[(0:Int),(0:Int),(0:Int),(0:Int),(0:Int),(0:Int),(0:Int),(0:Int),(0:Int),(0:Int),(0:Int),(0:Int),(0:Int),(0:Int),(0:Int),(0:Int),(0:Int)]=MoI.d l)∧∀a:MoI,MoI.i a≤8∧
 digs (MoI.d a) (MoI.i a+8)∧dv (MoI.d a)=lowD X (MoI.i a)*((Y:Nat):Int)→(decide (((MoI.i a:Nat):Int)<8)=true→∀C,C=IntKind.wrap IntKind.i64 (Int.tdiv ((MoI.i a:Nat):Int) (2:Int))→(0≤C∧C<4)∧
 (Int.toNat C*1+1≤List.length [a0,a1,a2,a3]∧∀x3:Int,x3=List.getD [a0,a1,a2,a3] (Int.toNat C*1) (0:Int)→∀x4,x4=Int.tmod ((MoI.i a:Nat):Int) (2:Int)→∀x5,x5=IntKind.wrap IntKind.i64 (32*x4)→(0≤x5
 ∧∀x6,x6=shrv .u64 x3 (Int.toNat x5)→∀f,f=Int.tmod x6 (4294967296:Int)→((∃e:MiI,(MiI.k e≤8∧digs (MiI.d e) (Int.toNat ((MoI.i a:Nat):Int)+8)∧0≤MiI.c e∧MiI.c e<4294967296∧dv (MiI.d e)+MiI.c e *
 (4294967296:Int) ^ (Int.toNat ((MoI.i a:Nat):Int)+MiI.k e)=dv (MoI.d a)+f*lowD Y (MiI.k e)*(4294967296:Int) ^ Int.toNat ((MoI.i a:Nat):Int))∧(((MoI.i a:Nat):Int)=((MoI.i a:Nat):Int)∧f=f∧0=MiI.c e∧
 0=((MiI.k e:Nat):Int))∧[a0,a1,a2,a3]= [a0,a1,a2,a3]∧[b0,b1,b2,b3]= [b0,b1,b2,b3]∧(m0=m0∧m1=m1∧m2=m2∧m3=m3)∧MoI.d a=MiI.d e)∧∀c:MiI,MiI.k c≤8∧digs (MiI.d c) (Int.toNat ((MoI.i a:Nat):
 Int)+8)∧0≤MiI.c c∧MiI.c c<4294967296∧dv (MiI.d c)+MiI.c c*(4294967296:Int) ^ (Int.toNat ((MoI.i a:Nat):Int)+MiI.k c)=dv (MoI.d a)+f*lowD Y (MiI.k c)*(4294967296:Int) ^ Int.toNat ((MoI.i a:Nat):Int)→
 (decide (((MiI.k c:Nat):Int)<8)=true→∀D,D=IntKind.wrap IntKind.i64 (Int.tdiv ((MiI.k c:Nat):Int) (2:Int))→(0≤D∧D<4)∧(Int.toNat D*1+1≤List.length [b0,b1,b2,b3]∧∀an:Int,an=List.getD [b0,b1,b2,
 b3] (Int.toNat D*1) (0:Int)→∀ao,ao=Int.tmod ((MiI.k c:Nat):Int) (2:Int)→∀ac,ac=IntKind.wrap IntKind.i64 (32*ao)→(0≤ac∧∀ap,ap=shrv .u64 an (Int.toNat ac)→∀aq,aq=Int.tmod ap (4294967296:Int)→∀E,E
 =IntKind.wrap IntKind.i64 (((MoI.i a:Nat):Int)+((MiI.k c:Nat):Int))→(0≤E∧E<17)∧(Int.toNat E*1+1≤List.length (MiI.d c)∧∀ar:Int,ar=List.getD (MiI.d c) (Int.toNat E*1) (0:Int)→∀au,au=IntKind.wrap
 IntKind.u64 (f*aq)→∀av,av=IntKind.wrap IntKind.u64 (ar+au)→∀ad,ad=IntKind.wrap IntKind.u64 (av+MiI.c c)→∀F,F=IntKind.wrap IntKind.i64 (((MoI.i a:Nat):Int)+((MiI.k c:Nat):Int))→∀aw,aw=Int.tmod ad
 (4294967296:Int)→(0≤F∧F<17)∧(Int.toNat F*1<List.length (MiI.d c)∧∀ax,ax=IntKind.wrap IntKind.u64 (Int.tdiv ad (4294967296:Int))→∀ay,ay=IntKind.wrap IntKind.i64 (((MiI.k c:Nat):Int)+1)→∃d:MiI,(MiI.k
 d≤8∧digs (MiI.d d) (Int.toNat ((MoI.i a:Nat):Int)+8)∧0≤MiI.c d∧MiI.c d<4294967296∧dv (MiI.d d)+MiI.c d*(4294967296:Int) ^ (Int.toNat ((MoI.i a:Nat):Int)+MiI.k d)=dv (MoI.d a)+f*lowD Y (MiI.k d) *
 (4294967296:Int) ^ Int.toNat ((MoI.i a:Nat):Int))∧((((MoI.i a:Nat):Int)=((MoI.i a:Nat):Int)∧f=f∧ax=MiI.c d∧ay=((MiI.k d:Nat):Int))∧[a0,a1,a2,a3]= [a0,a1,a2,a3]∧[b0,b1,b2,b3]= [b0,b1,b2,
 b3]∧(m0=m0∧m1=m1∧m2=m2∧m3=m3)∧List.set (MiI.d c) (Int.toNat F*1) aw=MiI.d d)∧8-MiI.k d<8-MiI.k c)))))∧(decide (((MiI.k c:Nat):Int)<8)=false→∀G,G=IntKind.wrap IntKind.i64 (((MoI.i a:Nat):
 Int)+8)→(0≤G∧G<17)∧(Int.toNat G*1<List.length (MiI.d c)∧∀az,az=IntKind.wrap IntKind.i64 (((MoI.i a:Nat):Int)+1)→∃j:MoI,(MoI.i j≤8∧digs (MoI.d j) (MoI.i j+8)∧dv (MoI.d j)=lowD X (MoI.i j)*((Y:
 Nat):Int))∧(az=((MoI.i j:Nat):Int)∧(m0=m0∧m1=m1∧m2=m2∧m3=m3)∧[a0,a1,a2,a3]= [a0,a1,a2,a3]∧[b0,b1,b2,b3]= [b0,b1,b2,b3]∧List.set (MiI.d c) (Int.toNat G*1) (MiI.c c)=MoI.d j)∧8-MoI.i j <
 8-MoI.i a))))))∧(decide (((MoI.i a:Nat):Int)<8)=false→((∃k:MsI,(MsI.n k≤512∧MsI.r k=Int.toNat (dv (MoI.d a)) / (2:Nat) ^ MsI.n k%M)∧511=((MsI.n k:Nat):Int)-1∧(m0=m0∧m1=m1∧m2=m2∧m3=m3)∧
 MoI.d a=MoI.d a∧0=lm (MsI.r k) 0∧0=lm (MsI.r k) 1∧0=lm (MsI.r k) 2∧0=lm (MsI.r k) 3)∧∀b:MsI,MsI.n b≤512∧MsI.r b=Int.toNat (dv (MoI.d a)) / (2:Nat) ^ MsI.n b%M→(decide (((MsI.n b:Nat):Int)-1≥0)=
 true→∀ae,ae=shrv .u64 (lm (MsI.r b) 3) 63→∀a4,a4=shlv .u64 (lm (MsI.r b) 3) 1→∀a5,a5=shrv .u64 (lm (MsI.r b) 2) 63→∀H,H=IntKind.wrap IntKind.u64 (a4+a5)→∀a6,a6=shlv .u64 (lm (MsI.r b) 2) 1→∀a7,a7=shrv
 .u64 (lm (MsI.r b) 1) 63→∀I,I=IntKind.wrap IntKind.u64 (a6+a7)→∀a8,a8=shlv .u64 (lm (MsI.r b) 1) 1→∀a9,a9=shrv .u64 (lm (MsI.r b) 0) 63→∀J,J=IntKind.wrap IntKind.u64 (a8+a9)→∀ba,ba=shlv .u64 (lm (MsI.r b)
 0) 1→∀L,L=IntKind.wrap IntKind.i64 (Int.tdiv (((MsI.n b:Nat):Int)-1) (32:Int))→(0≤L∧L<17)∧(Int.toNat L*1+1≤List.length (MoI.d a)∧∀bb:Int,bb=List.getD (MoI.d a) (Int.toNat L*1) (0:Int)→∀af,af=
 Int.tmod (((MsI.n b:Nat):Int)-1) (32:Int)→(0≤af∧∀bc,bc=shrv .u64 bb (Int.toNat af)→∀bd,bd=Int.tmod bc (2:Int)→∀N,N=IntKind.wrap IntKind.u64 (ba+bd)→((ae==1)=true→∀m,m=N→∀n,n=J→∀o,o=
 I→∀p,p=H→∀q,q=m0→∀r,r=m1→∀s,s=m2→∀t,t=m3→(((Wd m∧Wd n∧Wd o∧Wd p)∧Wd q∧Wd r∧Wd s∧Wd t)∧∀be,be=lm (w256 (V4 m n o p-V4 q r s t)) 0→∀bf,bf=lm (w256 (V4 m n o p-V4 q r s t)) 1→∀
 bg,bg=lm (w256 (V4 m n o p-V4 q r s t)) 2→∀bh,bh=lm (w256 (V4 m n o p-V4 q r s t)) 3→∀bi,bi=IntKind.wrap IntKind.i64 (((MsI.n b:Nat):Int)-1-1)→∃g:MsI,(MsI.n g≤512∧MsI.r g=Int.toNat (dv (MoI.d a)) / (2
 :Nat) ^ MsI.n g%M)∧(bi=((MsI.n g:Nat):Int)-1∧(m0=m0∧m1=m1∧m2=m2∧m3=m3)∧MoI.d a=MoI.d a∧be=lm (MsI.r g) 0∧bf=lm (MsI.r g) 1∧bg=lm (MsI.r g) 2∧bh=lm (MsI.r g) 3)∧MsI.n g<MsI.n b))∧((ae
 ==1)=false→∀O,O=N→∀Q,Q=J→∀R,R=I→∀S,S=H→∀T,T=m0→∀V,V=m1→∀Z,Z=m2→∀aa,aa=m3→((Wd O∧Wd Q∧Wd R∧Wd S)∧Wd T∧Wd V∧Wd Z∧Wd aa)∧(Bool.not (decide (V4 O Q R S<V4 T V Z aa))=true
 →∀u,u=N→∀v,v=J→∀w,w=I→∀x,x=H→∀y,y=m0→∀z,z=m1→∀A,A=m2→∀B,B=m3→(((Wd u∧Wd v∧Wd w∧Wd x)∧Wd y∧Wd z∧Wd A∧Wd B)∧∀bj,bj=lm (w256 (V4 u v w x-V4 y z A B)) 0→∀bk,bk=lm
 (w256 (V4 u v w x-V4 y z A B)) 1→∀bl,bl=lm (w256 (V4 u v w x-V4 y z A B)) 2→∀bm,bm=lm (w256 (V4 u v w x-V4 y z A B)) 3→∀bn,bn=IntKind.wrap IntKind.i64 (((MsI.n b:Nat):Int)-1-1)→∃h:MsI,(MsI.n h≤512∧
 MsI.r h=Int.toNat (dv (MoI.d a)) / (2:Nat) ^ MsI.n h%M)∧(bn=((MsI.n h:Nat):Int)-1∧(m0=m0∧m1=m1∧m2=m2∧m3=m3)∧MoI.d a=MoI.d a∧bj=lm (MsI.r h) 0∧bk=lm (MsI.r h) 1∧bl=lm (MsI.r h) 2∧bm=lm
 (MsI.r h) 3)∧MsI.n h<MsI.n b))∧(Bool.not (decide (V4 O Q R S<V4 T V Z aa))=false→∀bo,bo=IntKind.wrap IntKind.i64 (((MsI.n b:Nat):Int)-1-1)→∃i:MsI,(MsI.n i≤512∧MsI.r i=Int.toNat (dv (MoI.d a)) / (2:Nat)
 ^ MsI.n i%M)∧(bo=((MsI.n i:Nat):Int)-1∧(m0=m0∧m1=m1∧m2=m2∧m3=m3)∧MoI.d a=MoI.d a∧N=lm (MsI.r i) 0∧J=lm (MsI.r i) 1∧I=lm (MsI.r i) 2∧H=lm (MsI.r i) 3)∧MsI.n i<MsI.n b)))))∧(decide
 (((MsI.n b:Nat):Int)-1≥0)=false→∀ag,ag=lm (MsI.r b) 0→∀ah,ah=lm (MsI.r b) 1→∀ai,ai=lm (MsI.r b) 2→∀aj,aj=lm (MsI.r b) 3→K (.agg [.int .u64 (.sym ag),.int .u64 (.sym ah),.int .u64 (.sym ai),.int .u64
 (.sym aj)]) (memL [(529,⟨false,.cells [.int .u64 (.sym m0),.int .u64 (.sym m1),.int .u64 (.sym m2),.int .u64 (.sym m3)]⟩),(537,⟨false,.cells [.int .u64 (.sym ag),.int .u64 (.sym ah),.int .u64 (.sym ai),.int .u64 (.sym aj)]⟩),
 (553,⟨false,.ints .u64 (MoI.d a)⟩),(601,⟨false,.cells [.int .u64 (.sym (lm (MsI.r b) 0)),.int .u64 (.sym (lm (MsI.r b) 1)),.int .u64 (.sym (lm (MsI.r b) 2)),.int .u64 (.sym (lm (MsI.r b) 3))]⟩)]))))):=by kernel_rfl
theorem mm_walk (X Y M:Nat) (a0 a1 a2 a3 b0 b1 b2 b3 m0 m1 m2 m3:Int) (K:SV→Mem→Prop) (ha:Ws a0 a1 a2 a3 X) (hb:Ws b0 b1 b2 b3 Y) (hm:Ws m0 m1 m2 m3 M) (hM:0<M)
  (hK:∀r m',r=X*Y%M→K (ag4 (lm r 0) (lm r 1) (lm r 2) (lm r 3)) m'):
  execF cxMm (uMm [a0,a1,a2,a3] [b0,b1,b2,b3] X Y M) Tryz.f38 64 [ag4 a0 a1 a2 a3,ag4 b0 b1 b2 b3,ag4 m0 m1 m2 m3] (memL []) K:=by
 obtain ⟨rfl,rfl,rfl,rfl,hX⟩:=ha
 obtain ⟨rfl,rfl,rfl,rfl,hY⟩:=hb
 rw[vc_mm]
 refine ⟨⟨⟨0,List.replicate 17 0⟩,?_⟩,?_⟩
 ·refine ⟨⟨Nat.zero_le _,⟨by simp,?_,?_⟩,?_⟩,rfl,⟨rfl,rfl,rfl,rfl⟩,rfl,rfl,rfl⟩
  ·intro x hx
   rw[List.eq_of_mem_replicate hx]
   decide
  ·intro j _
   rw[List.getD_eq_getElem?_getD,List.getElem?_replicate]
   split<;>rfl
  ·rw[lowD_zero,Int.zero_mul]
   rfl
 rintro ⟨i,d⟩ ⟨hi,hd,e⟩
 dsimp only at hi hd e ⊢
 refine ⟨fun h=> ?_,fun h=> ?_⟩
 ·simp only[decide_eq_true_eq]at h
  have hi':i<8:=by omega
  rintro x2 h2
  have q2:=h2
  rw[Int.tdiv_eq_ediv_of_nonneg (by omega),wrap64 (by omega) (by omega)]at q2
  refine ⟨by omega,by simp only[List.length_cons,List.length_nil];omega,?_⟩
  rintro x3 h3 x4 h4 x5 h5
  have q:=fun x6 x7 h6 h7=>dig_of (X:=X) hi' (x6:=x6) (x7:=x7) h2 h3 h4 h5 h6 h7
  refine ⟨(q _ _ rfl rfl).2.1,?_⟩
  rintro x6 h6 x7 h7
  have hx7:=(q _ _ h6 h7).2.2
  refine ⟨⟨⟨0,0,d⟩,?_⟩,?_⟩
  ·refine ⟨⟨Nat.zero_le _,by rw[Int.toNat_natCast];exact hd,Int.le_refl _,by show (0:Int)<4294967296;decide,by rw[lowD_zero];simp⟩,⟨rfl,rfl,rfl,rfl⟩,rfl,rfl,⟨rfl,rfl,rfl,rfl⟩,rfl⟩
  rintro ⟨k,c,d'⟩ ⟨hk,hd',hc0,hc1,e'⟩
  dsimp only at hk hd' hc0 hc1 e' ⊢
  rw[Int.toNat_natCast]at hd' e'
  simp only[Int.toNat_natCast]
  refine ⟨fun h=> ?_,fun h=> ?_⟩
  ·simp only[decide_eq_true_eq]at h
   have hk':k<8:=by omega
   rintro x10 h10
   have q10:=h10
   rw[Int.tdiv_eq_ediv_of_nonneg (by omega),wrap64 (by omega) (by omega)]at q10
   refine ⟨by omega,by simp only[List.length_cons,List.length_nil];omega,?_⟩
   rintro x11 h11 x12 h12 x13 h13
   have r:=fun x14 x15 h14 h15=>dig_of (X:=Y) hk' (x6:=x14) (x7:=x15) h10 h11 h12 h13 h14 h15
   refine ⟨(r _ _ rfl rfl).2.1,?_⟩
   rintro x14 h14 x15 h15
   have hx15:=(r _ _ h14 h15).2.2
   have st:=fun x16 x17 x18 x19 x20 x21 x22 x23 h16 h17 h18 h19 h20 h21 h22 h23=>in_step (x16:=x16) (x17:=x17) (x18:=x18) (x19:=x19) (x20:=x20) (x21:=x21) (x22:=x22) (x23:=x23) hd' rfl hi' hk' hc0 hc1 (by rw[hx7];omega) hx15 e' h16 h17 h18 h19 h20 h21 h22 h23
   rintro x16 h16
   have s0:=st x16 _ _ _ _ x16 _ _ h16 rfl rfl rfl rfl h16 rfl rfl
   refine ⟨s0.1,s0.2.1,?_⟩
   rintro x17 h17 x18 h18 x19 h19 x20 h20 x21 h21 x22 h22
   have s1:=st x16 x17 x18 x19 x20 x21 x22 _ h16 h17 h18 h19 h20 h21 h22 rfl
   refine ⟨s1.2.2.1,s1.2.2.2.1,?_⟩
   rintro x23 h23 x24 h24
   rw[wrap64 (by omega) (by omega)]at h24
   obtain ⟨_,_,_,_,u1,u2,u3,u4⟩:=st x16 x17 x18 x19 x20 x21 x22 x23 h16 h17 h18 h19 h20 h21 h22 h23
   refine ⟨⟨k+1,x23,d'.set (x21.toNat*1) x22⟩,⟨hk',u1,u2,u3,u4⟩,?_⟩
   repeat' apply And.intro
   all_goals first | rfl | trivial | (simp only;omega)
  ·simp only[decide_eq_false_iff_not]at h
   have hk':k=8:=by omega
   rintro x26 h26
   rw[wrap64 (by omega) (by omega)]at h26
   have e26:x26.toNat=i+8:=by omega
   have hl:=hd'.1
   refine ⟨by omega,by omega,?_⟩
   rintro x27 h27
   rw[wrap64 (by omega) (by omega)]at h27
   rw[e26,Nat.mul_one]
   refine ⟨⟨i+1,d'.set (i+8) c⟩,⟨hi',?_,?_⟩,?_⟩
   ·exact digs_set ⟨hd'.1,hd'.2.1,fun j hj=>hd'.2.2 j (by simp only at hj;omega)⟩ ⟨hc0,hc1⟩ (by simp only;omega)
   ·show dv (d'.set (i+8) c)=lowD X (i+1)*(Y:Int)
    rw[dv_set d' (i+8) c (by omega),hd'.2.2 (i+8) (Nat.le_refl _),Int.sub_zero,lowD_succ,←hx7,Int.add_mul,←e]
    rw[hk',lowD_all hY]at e'
    rw[e',Int.mul_right_comm]
   ·repeat' apply And.intro
    all_goals first | rfl | trivial | (simp only;omega)
 ·simp only[decide_eq_false_iff_not]at h
  have h8:i=8:=by omega
  rw[h8,lowD_all hX]at e
  have hD:(dv d).toNat=X*Y:=by rw[e,←Int.natCast_mul,Int.toNat_natCast]
  have hlt:X*Y<2 ^ 512:=Nat.lt_of_lt_of_le (Nat.mul_lt_mul'' hX hY) (by decide +kernel)
  have mw:=hm.wd
  have mv:=hm.val
  have ml:=hm.lt
  refine ⟨⟨⟨512,0⟩,⟨Nat.le_refl _,?_⟩,rfl,⟨rfl,rfl,rfl,rfl⟩,rfl,?_⟩,?_⟩
  ·dsimp only
   rw[hD,Nat.div_eq_of_lt hlt,Nat.zero_mod]
  ·have z0:∀i,lm 0 i=0:=fun i=>by
    unfold lm
    simp
   simp only[z0]
   exact ⟨trivial,trivial,trivial,trivial⟩
  rintro ⟨n,r⟩ ⟨hn,hr⟩
  dsimp only at hn hr ⊢
  refine ⟨fun h=> ?_,fun h=> ?_⟩
  ·simp only[decide_eq_true_eq]at h
   have hr':=hr
   obtain ⟨p,rfl⟩:∃p,n=p+1:=⟨n-1,by omega⟩
   have hlt:r<M:=by rw[hr];exact Nat.mod_lt _ hM
   rintro x31 h31 x32 h32 x33 h33 x34 h34 x35 h35 x36 h36 x37 h37 x38 h38 x39 h39 x40 h40 x41 h41 x42 h42
   have bf:=fun x43 x44 x45 x46=>bit_fetch (x43:=x43) (x44:=x44) (x45:=x45) (x46:=x46) hd.2.1 (by omega) hn h42
   have b0:=(bf _ _ _ _ rfl rfl rfl rfl).1
   refine ⟨b0,by have:=hd.1;omega,?_⟩
   rintro x43 h43 x44 h44
   refine ⟨(bf x43 x44 _ _ h43 h44 rfl rfl).2.1,?_⟩
   rintro x45 h45 x46 h46 x47 h47
   obtain ⟨_,_,e46⟩:=bf x43 x44 x45 x46 h43 h44 h45 h46
   rw[shl1]at h32 h35 h38 h41
   rw[shr63 (lm_wd _ _).1]at h31 h33 h36 h39
   rw[wu64]at h34 h37 h40 h47
   subst h32 h33 h35 h36 h38 h39 h41
   have hb:0≤x46∧x46<2:=by rw[e46];omega
   obtain ⟨yw,yh,ye⟩:=dbl_eq (lm_wd _ _) (lm_wd _ _) (lm_wd _ _) (lm_wd _ _) hb h47 h40 h37 h34 h31
   rw[lm_val (by omega),e46,Nat.add_sub_cancel,hD]at ye
   rw[hD]at hr
   obtain ⟨s1,s2⟩:=ms_step hM ml hr yw yh ye
   have mval:V4 m0 m1 m2 m3=(M:Int):=mv
   have fin:∀z0 z1 z2 z3 x:Int,x=IntKind.i64.wrap (((((p+1:Nat)):Int)-1)-1)→z0=lm (X*Y / 2 ^ p%M) 0→z1=lm (X*Y / 2 ^ p%M) 1→z2=lm (X*Y / 2 ^ p%M) 2→z3=lm (X*Y / 2 ^ p%M) 3→
     ∃w:MsI,(w.n≤512∧w.r=(dv d).toNat / 2 ^ w.n%M)∧((x=((w.n:Nat):Int)-1∧(m0=m0∧m1=m1∧m2=m2∧m3=m3)∧d=d∧z0=lm w.r 0∧z1=lm w.r 1∧z2=lm w.r 2∧z3=lm w.r 3)∧w.n<p+1):=by
    intro z0 z1 z2 z3 x hx e0 e1 e2 e3
    rw[wrap64 (by omega) (by omega)]at hx
    exact ⟨⟨p,X*Y / 2 ^ p%M⟩,⟨by simp only;omega,by simp only;rw[hD]⟩,⟨by simp only;omega,⟨rfl,rfl,rfl,rfl⟩,rfl,e0,e1,e2,e3⟩,by simp only;omega⟩
   refine ⟨fun hh=> ?_,fun hh=> ?_⟩
   ·rintro x48 h48 x49 h49 x50 h50 x51 h51 x52 h52 x53 h53 x54 h54 x55 h55
    rw[h48,h49,h50,h51,h52,h53,h54,h55]
    refine ⟨⟨yw,mw⟩,?_⟩
    rintro x56 h56 x57 h57 x58 h58 x59 h59 x60 h60
    have q:=s1 (.inl (by simpa using hh))
    rw[mval,q]at h56 h57 h58 h59
    exact fin _ _ _ _ _ h60 h56 h57 h58 h59
   ·rintro x48 h48 x49 h49 x50 h50 x51 h51 x52 h52 x53 h53 x54 h54 x55 h55
    rw[h48,h49,h50,h51,h52,h53,h54,h55]
    refine ⟨⟨yw,mw⟩,fun hq=> ?_,fun hq=> ?_⟩
    ·rintro x48 h48 x49 h49 x50 h50 x51 h51 x52 h52 x53 h53 x54 h54 x55 h55
     rw[h48,h49,h50,h51,h52,h53,h54,h55]
     refine ⟨⟨yw,mw⟩,?_⟩
     rintro x56 h56 x57 h57 x58 h58 x59 h59 x60 h60
     have q:=s1 (.inr (by rw[←mval];simpa using hq))
     rw[mval,q]at h56 h57 h58 h59
     exact fin _ _ _ _ _ h60 h56 h57 h58 h59
    ·rintro x60 h60
     have h0:x31=0:=by
      have:¬x31=1:=by simpa using hh
      omega
     obtain ⟨e0,e1,e2,e3⟩:=s2 h0 (by rw[←mval];simpa using hq)
     exact fin _ _ _ _ _ h60 e0 e1 e2 e3
  ·simp only[decide_eq_false_iff_not]at h
   have hn0:n=0:=by omega
   rintro _ rfl _ rfl _ rfl _ rfl
   exact hK r _ (by rw[hr,hn0,hD,Nat.pow_zero,Nat.div_one])
theorem Ws.of {a b c d:Int} (h:Wd a∧Wd b∧Wd c∧Wd d):Ws a b c d (V4 a b c d).toNat:=by
 obtain ⟨h0,h1,h2,h3⟩:=h
 have n0:=V4_nonneg h0 h1 h2 h3
 have n1:=V4_lt h0 h1 h2 h3
 obtain ⟨e0,e1,e2,e3⟩:=lm_of h0 h1 h2 h3 (x:=(V4 a b c d).toNat) (by omega)
 exact ⟨e0,e1,e2,e3,by omega⟩
def rMm:R0:=fun args l=>
 match args,l with
 | [.agg [.int .u64 (.sym a0),.int .u64 (.sym a1),.int .u64 (.sym a2),.int .u64 (.sym a3)],.agg [.int .u64 (.sym b0),.int .u64 (.sym b1),.int .u64 (.sym b2),.int .u64 (.sym b3)],.agg [.int .u64 (.sym m0),.int .u64 (.sym m1),.int .u64 (.sym m2),.int .u64 (.sym m3)]],[]=>
  some (some (((Wd a0∧Wd a1∧Wd a2∧Wd a3)∧(Wd b0∧Wd b1∧Wd b2∧Wd b3)∧(Wd m0∧Wd m1∧Wd m2∧Wd m3))∧0<V4 m0 m1 m2 m3),
   ag4 (lm ((V4 a0 a1 a2 a3).toNat*(V4 b0 b1 b2 b3).toNat%(V4 m0 m1 m2 m3).toNat) 0) (lm ((V4 a0 a1 a2 a3).toNat*(V4 b0 b1 b2 b3).toNat%(V4 m0 m1 m2 m3).toNat) 1) (lm ((V4 a0 a1 a2 a3).toNat*(V4 b0 b1 b2 b3).toNat%(V4 m0 m1 m2 m3).toNat) 2) (lm ((V4 a0 a1 a2 a3).toNat*(V4 b0 b1 b2 b3).toNat%(V4 m0 m1 m2 m3).toNat) 3))
 | _,_=>none
theorem mm_ok (args:List SV) (l:List (Nat×Reg)) (p:Ob) (v:SV) (h:rMm args l=some (p,v)) (hp:p.ok):∃U,execF cxMm U Tryz.f38 64 args (memL l) fun v' _=>v'=v:=by
 unfold rMm at h
 split at h
 ·rename_i a0 a1 a2 a3 b0 b1 b2 b3 m0 m1 m2 m3
  simp only[Option.some.injEq,Prod.mk.injEq]at h
  obtain ⟨rfl,rfl⟩:=h
  obtain ⟨⟨ha,hb,hm⟩,hM⟩:((Wd a0∧Wd a1∧Wd a2∧Wd a3)∧(Wd b0∧Wd b1∧Wd b2∧Wd b3)∧(Wd m0∧Wd m1∧Wd m2∧Wd m3))∧0<V4 m0 m1 m2 m3:=hp
  refine ⟨_,mm_walk _ _ _ a0 a1 a2 a3 b0 b1 b2 b3 m0 m1 m2 m3 _ (Ws.of ha) (Ws.of hb) (Ws.of hm) (by omega) fun r m' hr=> ?_⟩
  rw[hr]
 ·cases h
def cMm:Rd Tryz.prog:=mkR mixed 38 Tryz.func38 (by decide) (by kernel_rfl) [] [.num,.num,.num] rMm mm_ok
def cxMl:Cx Tryz.prog:= { rds:= [cPP,cMm],efs:= [],eqs:= [] }
theorem vc_ml (a0 a1 a2 a3 b0 b1 b2 b3:Int) (K:SV→Mem→Prop):(execF cxMl u9 Tryz.f17 64 [ag4 a0 a1 a2 a3,ag4 b0 b1 b2 b3] (memL []) K)=(∀a,a=a0→∀b,b=a1→∀c,c=a2→∀d,d=a3→∀e,e=b0→∀f,f=b1→∀g,g=
 b2→∀h,h=b3→((((Wd a∧Wd b∧Wd c∧Wd d)∧(Wd e∧Wd f∧Wd g∧Wd h)∧Wd (4332616871279656263:Int)∧Wd (10917124144477883021:Int)∧Wd (13281191951274694749:Int)∧Wd (3486998266802970665:Int))∧(0:Int) <
 (21888242871839275222246405745257275088696311157297823662689037894645226208583:Int))∧∀i,i=lm (Int.toNat (V4 a b c d)*Int.toNat (V4 e f g h)%21888242871839275222246405745257275088696311157297823662689037894645226208583) 0→∀j,
 j=lm (Int.toNat (V4 a b c d)*Int.toNat (V4 e f g h)%21888242871839275222246405745257275088696311157297823662689037894645226208583) 1→∀k,k=lm (Int.toNat (V4 a b c d)*Int.toNat (V4 e f g h) %
 21888242871839275222246405745257275088696311157297823662689037894645226208583) 2→∀l,l=lm (Int.toNat (V4 a b c d)*Int.toNat (V4 e f g h)%21888242871839275222246405745257275088696311157297823662689037894645226208583) 3→K (.agg
 [.int .u64 (.sym i),.int .u64 (.sym j),.int .u64 (.sym k),.int .u64 (.sym l)]) (memL [(513,⟨false,.cells [.int .u64 (.sym a0),.int .u64 (.sym a1),.int .u64 (.sym a2),.int .u64 (.sym a3)]⟩),(521,⟨false,.cells [.int .u64 (.sym
 b0),.int .u64 (.sym b1),.int .u64 (.sym b2),.int .u64 (.sym b3)]⟩),(529,⟨false,.cells [.int .u64 (.sym i),.int .u64 (.sym j),.int .u64 (.sym k),.int .u64 (.sym l)]⟩)]))):=by kernel_rfl
def rMl:R0:=fun args l=>
 match args,l with
 | [.agg [.int .u64 (.sym a0),.int .u64 (.sym a1),.int .u64 (.sym a2),.int .u64 (.sym a3)],.agg [.int .u64 (.sym b0),.int .u64 (.sym b1),.int .u64 (.sym b2),.int .u64 (.sym b3)]],[]=>
  some (some ((Wd a0∧Wd a1∧Wd a2∧Wd a3)∧(Wd b0∧Wd b1∧Wd b2∧Wd b3)),
   ag4 (lm ((V4 a0 a1 a2 a3).toNat*(V4 b0 b1 b2 b3).toNat%21888242871839275222246405745257275088696311157297823662689037894645226208583) 0) (lm ((V4 a0 a1 a2 a3).toNat*(V4 b0 b1 b2 b3).toNat%21888242871839275222246405745257275088696311157297823662689037894645226208583) 1) (lm ((V4 a0 a1 a2 a3).toNat*(V4 b0 b1 b2 b3).toNat%21888242871839275222246405745257275088696311157297823662689037894645226208583) 2) (lm ((V4 a0 a1 a2 a3).toNat*(V4 b0 b1 b2 b3).toNat%21888242871839275222246405745257275088696311157297823662689037894645226208583) 3))
 | _,_=>none
theorem ml_ok (args:List SV) (l:List (Nat×Reg)) (p:Ob) (v:SV) (h:rMl args l=some (p,v)) (hp:p.ok):∃U,execF cxMl U Tryz.f17 64 args (memL l) fun v' _=>v'=v:=by
 unfold rMl at h
 split at h
 ·rename_i a0 a1 a2 a3 b0 b1 b2 b3
  simp only[Option.some.injEq,Prod.mk.injEq]at h
  obtain ⟨rfl,rfl⟩:=h
  obtain ⟨ha,hb⟩:(Wd a0∧Wd a1∧Wd a2∧Wd a3)∧(Wd b0∧Wd b1∧Wd b2∧Wd b3):=hp
  refine ⟨u9,?_⟩
  have:=vc_ml a0 a1 a2 a3 b0 b1 b2 b3 fun v' _=>v'=ag4 (lm ((V4 a0 a1 a2 a3).toNat*(V4 b0 b1 b2 b3).toNat%21888242871839275222246405745257275088696311157297823662689037894645226208583) 0) (lm ((V4 a0 a1 a2 a3).toNat*(V4 b0 b1 b2 b3).toNat%21888242871839275222246405745257275088696311157297823662689037894645226208583) 1) (lm ((V4 a0 a1 a2 a3).toNat*(V4 b0 b1 b2 b3).toNat%21888242871839275222246405745257275088696311157297823662689037894645226208583) 2) (lm ((V4 a0 a1 a2 a3).toNat*(V4 b0 b1 b2 b3).toNat%21888242871839275222246405745257275088696311157297823662689037894645226208583) 3)
  unfold ag4 at this
  refine this.mpr ?_
  clear this
  rintro _ rfl _ rfl _ rfl _ rfl _ rfl _ rfl _ rfl _ rfl
  refine ⟨⟨⟨ha,hb,wdq0,wdq1,wdq2,wdq3⟩,by decide⟩,?_⟩
  rintro _ rfl _ rfl _ rfl _ rfl
  rfl
 ·cases h
def cMl:Rd Tryz.prog:=mkR mixed 17 Tryz.func17 (by decide) (by kernel_rfl) [] [.num,.num] rMl ml_ok
end Go.Sx
