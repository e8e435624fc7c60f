/- Part 4 of the proof: for every number of E2 (two rows of four words) the law FnMapG2 returns true (a verified symbolic evaluator, contracts of each function reached, the law, its row and card). Conditions: those of the given statement, none besides. -/
import Derived.Test.YtajbcjgonpoojaaGreatDoorSx3
namespace Go.Sx
open Go Go.Proofs Go.Num
set_option maxRecDepth 100000
def cxRt:Cx Tryz.prog:= { rds:= [cPP,cWs,cHv,cPw,cMl],efs:= [],eqs:= [eq23] }
theorem vc_rt (a0 a1 a2 a3:Int) (K:SV→Mem→Prop):(execF cxRt u9 Tryz.f98 64 [ag4 a0 a1 a2 a3] (memL []) K)=(((Wd (4332616871279656263:Int)∧Wd (10917124144477883021:Int)∧Wd (13281191951274694749:Int)∧Wd
 (3486998266802970665:Int))∧Wd (1:Int)∧Wd (0:Int)∧Wd (0:Int)∧Wd (0:Int))∧∀a,a=a0→∀b,b=a1→∀c,c=a2→∀d,d=a3→∀e:Int,e=4332616871279656264→∀f:Int,f=10917124144477883021→∀g:Int,g=
 13281191951274694749→∀h:Int,h=3486998266802970665→((Wd e∧Wd f∧Wd g∧Wd h)∧∀i,i=lm (Int.toNat (V4 e f g h) / 2) 0→∀j,j=lm (Int.toNat (V4 e f g h) / 2) 1→∀k,k=lm (Int.toNat (V4 e f g h) / 2) 2→∀l,l=lm
 (Int.toNat (V4 e f g h) / 2) 3→((Wd i∧Wd j∧Wd k∧Wd l)∧∀m,m=lm (Int.toNat (V4 i j k l) / 2) 0→∀n,n=lm (Int.toNat (V4 i j k l) / 2) 1→∀o,o=lm (Int.toNat (V4 i j k l) / 2) 2→∀p,p=lm (Int.toNat (V4 i j k l) / 2)
 3→(((Wd a∧Wd b∧Wd c∧Wd d)∧Wd m∧Wd n∧Wd o∧Wd p)∧∀y,y=lm (pw (21888242871839275222246405745257275088696311157297823662689037894645226208583:Nat) (256:Nat) (Int.toNat (V4 a b c d)) (Int.toNat (V4 m n o p))) 0→∀z,
 z=lm (pw (21888242871839275222246405745257275088696311157297823662689037894645226208583:Nat) (256:Nat) (Int.toNat (V4 a b c d)) (Int.toNat (V4 m n o p))) 1→∀A,A=lm (pw
 (21888242871839275222246405745257275088696311157297823662689037894645226208583:Nat) (256:Nat) (Int.toNat (V4 a b c d)) (Int.toNat (V4 m n o p))) 2→∀B,B=lm (pw
 (21888242871839275222246405745257275088696311157297823662689037894645226208583:Nat) (256:Nat) (Int.toNat (V4 a b c d)) (Int.toNat (V4 m n o p))) 3→∀C,C=y→∀D,D=z→∀E,E=A→∀F,F=B→∀q,q=y→∀r,r=z→∀s,s=
 A→∀t,t=B→∀u,u=y→∀v,v=z→∀w,w=A→∀x,x=B→(((Wd q∧Wd r∧Wd s∧Wd t)∧Wd u∧Wd v∧Wd w∧Wd x)∧∀G,G=lm (Int.toNat (V4 q r s t)*Int.toNat (V4 u v w x) %
 21888242871839275222246405745257275088696311157297823662689037894645226208583) 0→∀H,H=lm (Int.toNat (V4 q r s t)*Int.toNat (V4 u v w x)%21888242871839275222246405745257275088696311157297823662689037894645226208583) 1→∀I,I=
 lm (Int.toNat (V4 q r s t)*Int.toNat (V4 u v w x)%21888242871839275222246405745257275088696311157297823662689037894645226208583) 2→∀J,J=lm (Int.toNat (V4 q r s t)*Int.toNat (V4 u v w x) %
 21888242871839275222246405745257275088696311157297823662689037894645226208583) 3→∀L,L=a0→∀M,M=a1→∀N,N=a2→∀O,O=a3→K (.tup [.agg [.int .u64 (.sym C),.int .u64 (.sym D),.int .u64 (.sym E),.int .u64 (.sym F)],
 .bool (.sym (decide ([G,H,I,J]= [L,M,N,O])))]) (memL [(513,⟨false,.cells [.int .u64 (.sym a0),.int .u64 (.sym a1),.int .u64 (.sym a2),.int .u64 (.sym a3)]⟩),(521,⟨false,.cells [.int .u64 (.sym C),.int .u64 (.sym D),.int
 .u64 (.sym E),.int .u64 (.sym F)]⟩),(585,⟨false,.cells [.int .u64 (.sym 4332616871279656264),.int .u64 (.sym 10917124144477883021),.int .u64 (.sym 13281191951274694749),.int .u64 (.sym 3486998266802970665)]⟩),(649,⟨false,.cells
 [.int .u64 (.sym y),.int .u64 (.sym z),.int .u64 (.sym A),.int .u64 (.sym B)]⟩)])))))):=by kernel_rfl
theorem w_iff {a b c d e f g h:Int} {A B:Nat} (ha:Ws a b c d A) (hb:Ws e f g h B): [a,b,c,d]= [e,f,g,h]↔A=B:=by
 constructor
 ·intro l
  simp only[List.cons.injEq,and_true]at l
  obtain ⟨rfl,rfl,rfl,rfl⟩:=l
  have:=ha.val
  rw[hb.val]at this
  omega
 ·intro e
  subst e
  obtain ⟨rfl,rfl,rfl,rfl,_⟩:=ha
  obtain ⟨rfl,rfl,rfl,rfl,_⟩:=hb
  rfl
theorem one_ws:Ws 1 0 0 0 1:=⟨rfl,rfl,rfl,rfl,by decide⟩
theorem zero_ws:Ws 0 0 0 0 0:=⟨rfl,rfl,rfl,rfl,by decide⟩
theorem Vx {a b c d:Int} {A:Nat} (h:Ws a b c d A):(V4 a b c d).toNat=A:=by rw[h.val,Int.toNat_natCast]
theorem lm4_wd (x:Nat):Wd (lm x 0)∧Wd (lm x 1)∧Wd (lm x 2)∧Wd (lm x 3):=⟨lm_wd _ _,lm_wd _ _,lm_wd _ _,lm_wd _ _⟩
theorem rt_walk {A:Nat} {a0 a1 a2 a3:Int} {K:SV→Mem→Prop} (ha:Ws a0 a1 a2 a3 A) (hK:∀m,K (.tup [ag4 (lm (rtN A) 0) (lm (rtN A) 1) (lm (rtN A) 2) (lm (rtN A) 3),.bool (.sym (sqN A))]) m):
  execF cxRt u9 Tryz.f98 64 [ag4 a0 a1 a2 a3] (memL []) K:=by
 rw[vc_rt,←qN_eq]
 refine ⟨⟨q_ws.wd,one_ws.wd⟩,?_⟩
 intro s0 ks0 s1 ks1 s2 ks2 s3 ks3 s4 ks4 s5 ks5 s6 ks6 s7 ks7;subst s0 s1 s2 s3 s4 s5 s6 s7
 have h1:Ws 4332616871279656264 10917124144477883021 13281191951274694749 3486998266802970665 (qN+1):=⟨by decide,by decide,by decide,by decide,by decide⟩
 refine ⟨h1.wd,?_⟩
 rw[Vx h1]
 have h2:Ws (lm ((qN+1) / 2) 0) (lm ((qN+1) / 2) 1) (lm ((qN+1) / 2) 2) (lm ((qN+1) / 2) 3) ((qN+1) / 2):=ws_lm (by decide)
 intro s0 ks0 s1 ks1 s2 ks2 s3 ks3;subst s0 s1 s2 s3
 refine ⟨h2.wd,?_⟩
 rw[Vx h2]
 have h3:Ws (lm ((qN+1) / 2 / 2) 0) (lm ((qN+1) / 2 / 2) 1) (lm ((qN+1) / 2 / 2) 2) (lm ((qN+1) / 2 / 2) 3) ((qN+1) / 2 / 2):=ws_lm (by decide)
 intro s0 ks0 s1 ks1 s2 ks2 s3 ks3;subst s0 s1 s2 s3
 refine ⟨⟨ha.wd,h3.wd⟩,?_⟩
 rw[Vx h3,Vx ha,show (qN+1) / 2 / 2=e4N by decide,show pw qN 256 A e4N=rtN A from rfl]
 intro s0 ks0 s1 ks1 s2 ks2 s3 ks3 s4 ks4 s5 ks5 s6 ks6 s7 ks7 s8 ks8 s9 ks9 s10 ks10 s11 ks11 s12 ks12 s13 ks13 s14 ks14 s15 ks15;subst s0 s1 s2 s3 s4 s5 s6 s7 s8 s9 s10 s11 s12 s13 s14 s15
 have h4:Ws (lm (rtN A) 0) (lm (rtN A) 1) (lm (rtN A) 2) (lm (rtN A) 3) (rtN A):=ws_q (rtN_lt A)
 refine ⟨⟨h4.wd,h4.wd⟩,?_⟩
 rw[Vx h4]
 intro s0 ks0 s1 ks1 s2 ks2 s3 ks3 s4 ks4 s5 ks5 s6 ks6 s7 ks7;subst s0 s1 s2 s3 s4 s5 s6 s7
 have h5:=w_iff (ws_q (Nat.mod_lt (rtN A*rtN A) (show 0<qN by decide))) ha
 rw[decide_eq_decide.2 h5]
 exact hK _
def rRt:R0:=fun args l=>
 match args,l with
 | [.agg [.int .u64 (.sym a0),.int .u64 (.sym a1),.int .u64 (.sym a2),.int .u64 (.sym a3)]],[]=>some (some ((Wd a0∧Wd a1∧Wd a2∧Wd a3)),.tup [ag4 (lm (rtN (V4 a0 a1 a2 a3).toNat) 0) (lm (rtN (V4 a0 a1 a2 a3).toNat) 1) (lm (rtN (V4 a0 a1 a2 a3).toNat) 2) (lm (rtN (V4 a0 a1 a2 a3).toNat) 3),.bool (.sym (sqN (V4 a0 a1 a2 a3).toNat))])
 | _,_=>none
theorem Rt_ok (args:List SV) (l:List (Nat×Reg)) (p:Ob) (v:SV) (h:rRt args l=some (p,v)) (hp:p.ok):∃U,execF cxRt U Tryz.f98 64 args (memL l) fun v' _=>v'=v:=by
 unfold rRt at h
 split at h
 ·rename_i a0 a1 a2 a3
  simp only[Option.some.injEq,Prod.mk.injEq]at h
  obtain ⟨rfl,rfl⟩:=h
  have hp:(Wd a0∧Wd a1∧Wd a2∧Wd a3):=hp
  have A:=ws_of hp.1 hp.2.1 hp.2.2.1 hp.2.2.2
  exact ⟨_,rt_walk A fun _=>rfl⟩
 ·cases h
def cRt:Rd Tryz.prog:=mkR mixed 98 Tryz.func98 (by decide) (by kernel_rfl) [] [.num] rRt Rt_ok
def cxEs:Cx Tryz.prog:= { rds:= [],efs:= [kSqr,kMulA],eqs:= [] }
def uEs:Nat→Lp:=fun _=> .un 40
def sqs:Nat→Int→Int→Int→Int→(Int→Int→Int→Int→Prop)→Prop
 | 0,a,b,c,d,K=>K a b c d
 | n+1,a,b,c,d,K=>mulC a b c d a b c d fun a b c d=>sqs n a b c d K
def EsC (x0 x1 x2 x3:Int) (K:SV→Mem→Prop):Prop:=
 mulC x0 x1 x2 x3 x0 x1 x2 x3 fun a b c d=>mulC x0 x1 x2 x3 a b c d fun a1 b1 c1 d1=>mulC a b c d a1 b1 c1 d1 fun i j k l=>mulC x0 x1 x2 x3 i j k l fun e f g h=>mulC x0 x1 x2 x3 e f g h fun a4 b4 c4 d4=>mulC i j k l e f g h fun a5
 b5 c5 d5=>mulC x0 x1 x2 x3 a5 b5 c5 d5 fun m n o p=>mulC x0 x1 x2 x3 m n o p fun q r s t=>mulC a b c d q r s t fun Q R S T=>mulC a b c d Q R S T fun V X Y Z=>mulC a b c d V X Y Z fun ee ef eg eh=>mulC e f g h V X Y Z fun u v w
 x=>mulC a b c d u v w x fun y z A B=>mulC a b c d y z A B fun aq ar au av=>mulC e f g h y z A B fun ei ej ek el=>mulC m n o p u v w x fun em en eo ep=>mulC m n o p aq ar au av fun aa ab ac ad=>mulC a b c d aa ab ac ad fun C D E
 F=>mulC a b c d C D E F fun aw ax ay az=>mulC a b c d aw ax ay az fun G H I J=>mulC m n o p G H I J fun L M N O=>mulC aa ab ac ad L M N O fun eq er es et=>sqs 5 eq er es et fun eu ev ew ex=>mulC y z A B eu ev ew ex fun ey ez e0
 e1=>sqs 9 ey ez e0 e1 fun ba bb bc bd=>mulC aa ab ac ad ba bb bc bd fun e2 e3 e4 e5=>sqs 8 e2 e3 e4 e5 fun e6 e7 e8 e9=>mulC L M N O e6 e7 e8 e9 fun fa fb fc fd=>sqs 4 fa fb fc fd fun fe ff fg fh=>mulC a4 b4 c4 d4 fe ff fg fh
 fun fi fj fk fl=>sqs 9 fi fj fk fl fun be bf bg bh=>mulC ee ef eg eh be bf bg bh fun fm fn fo fp=>sqs 7 fm fn fo fp fun fq fr fs ft=>mulC q r s t fq fr fs ft fun fu fv fw fx=>sqs 13 fu fv fw fx fun fy fz f0 f1=>mulC C D E F fy
 fz f0 f1 fun f2 f3 f4 f5=>sqs 5 f2 f3 f4 f5 fun f6 f7 f8 f9=>mulC u v w x f6 f7 f8 f9 fun ga gb gc gd=>sqs 7 ga gb gc gd fun ge gf gg gh=>mulC i j k l ge gf gg gh fun gi gj gk gl=>sqs 10 gi gj gk gl fun bi bj bk bl=>mulC V X Y
 Z bi bj bk bl fun gm gn go gp=>sqs 6 gm gn go gp fun bm bn bo bp=>mulC aq ar au av bm bn bo bp fun gq gr gs gt=>sqs 5 gq gr gs gt fun gu gv gw gx=>mulC q r s t gu gv gw gx fun gy gz g0 g1=>sqs 8 gy gz g0 g1 fun bq br bs bt=>
 mulC a1 b1 c1 d1 bq br bs bt fun g2 g3 g4 g5=>sqs 12 g2 g3 g4 g5 fun bu bv bw bx=>mulC aw ax ay az bu bv bw bx fun g6 g7 g8 g9=>sqs 9 g6 g7 g8 g9 fun bz ca cb cc=>mulC u v w x bz ca cb cc fun ha hb hc hd=>sqs 6 ha hb hc hd fun cd
 ce cf cg=>mulC y z A B cd ce cf cg fun he hf hg hh=>sqs 5 he hf hg hh fun hi hj hk hl=>mulC Q R S T hi hj hk hl fun hm hn ho hp=>sqs 12 hm hn ho hp fun hq hr hs ht=>mulC G H I J hq hr hs ht fun hu hv hw hx=>sqs 7 hu hv hw hx
 fun hy hz h0 h1=>mulC C D E F hy hz h0 h1 fun h2 h3 h4 h5=>sqs 9 h2 h3 h4 h5 fun h6 h7 h8 h9=>mulC G H I J h6 h7 h8 h9 fun ia ib ic id=>sqs 7 ia ib ic id fun ch ci cj ck=>mulC a4 b4 c4 d4 ch ci cj ck fun ie ig ih ii=>sqs 9 ie
 ig ih ii fun ij ik il im=>mulC L M N O ij ik il im fun io ip iq ir=>sqs 4 io ip iq ir fun cl cm cn co=>mulC i j k l cl cm cn co fun it iu iv iw=>sqs 7 it iu iv iw fun cp cq cr cs=>mulC q r s t cp cq cr cs fun ix iy iz i0=>sqs 6
 ix iy iz i0 fun ct cu cv cw=>mulC Q R S T ct cu cv cw fun i1 i2 i3 i4=>sqs 5 i1 i2 i3 i4 fun i5 i6 i7 i8=>mulC x0 x1 x2 x3 i5 i6 i7 i8 fun i9 ja jb jc=>sqs 11 i9 ja jb jc fun cx cy cz da=>mulC em en eo ep cx cy cz da fun jd je jf
 jg=>sqs 11 jd je jf jg fun db dc dd de=>mulC G H I J db dc dd de fun jh ji jj jk=>sqs 4 jh ji jj jk fun df dg dh di=>mulC a5 b5 c5 d5 df dg dh di fun jl jm jn jo=>sqs 9 jl jm jn jo fun dj dk dl dm=>mulC ei ej ek el dj dk dl dm
 fun jp jq jr js=>sqs 8 jp jq jr js fun dn dp dq dr=>mulC L M N O dn dp dq dr fun ds dt du dv=>mulC e f g h ds dt du dv fun jt ju jv jw=>sqs 7 jt ju jv jw fun dw dx dy dz=>mulC C D E F dw dx dy dz fun ea eb ec ed=>mulC ea eb ec
 ed ea eb ec ed fun jx jy jz j0=>K (.ptr 1 (.lit 0)) (memL [(1,⟨false,w4 jx jy jz j0⟩),(513,⟨false,w4 x0 x1 x2 x3⟩),(529,⟨false,w4 dw dx dy dz⟩),(537,⟨false,w4 ds dt du dv⟩),(545,⟨false,w4 dn dp dq dr⟩),(553,⟨false,w4 dj
 dk dl dm⟩),(561,⟨false,w4 df dg dh di⟩),(569,⟨false,w4 db dc dd de⟩),(577,⟨false,w4 cx cy cz da⟩),(585,⟨false,w4 ct cu cv cw⟩),(593,⟨false,w4 cp cq cr cs⟩),(601,⟨false,w4 cl cm cn co⟩),(609,⟨false,w4 ch ci cj ck⟩),
 (617,⟨false,w4 cd ce cf cg⟩),(625,⟨false,w4 bz ca cb cc⟩),(633,⟨false,w4 bu bv bw bx⟩),(641,⟨false,w4 bq br bs bt⟩),(649,⟨false,w4 bm bn bo bp⟩),(657,⟨false,w4 bi bj bk bl⟩),(665,⟨false,w4 be bf bg bh⟩),(673,⟨false,
 w4 ba bb bc bd⟩)])
theorem vc_es (z0 z1 z2 z3 x0 x1 x2 x3:Int) (K:SV→Mem→Prop):execF cxEs uEs Tryz.f85 64 [.ptr 1 (.lit 0),ag4 x0 x1 x2 x3] (memL [(1,⟨false,w4 z0 z1 z2 z3⟩)]) K=EsC x0 x1 x2 x3 K:=by kernel_rfl
def EP (X e:Nat) (a b c d:Int):Prop:=El a b c d (mont (X ^ e))
theorem mulC_e {X e f g:Nat} {a0 a1 a2 a3 b0 b1 b2 b3:Int} {K:Int→Int→Int→Int→Prop} (ha:EP X e a0 a1 a2 a3) (hb:EP X f b0 b1 b2 b3) (hg:e+f=g)
  (h:∀y0 y1 y2 y3,EP X g y0 y1 y2 y3→K y0 y1 y2 y3):mulC a0 a1 a2 a3 b0 b1 b2 b3 K:=
 ⟨_,_,⟨El.ws ha,hb⟩,fun r hr y0 y1 y2 y3 hy=>h y0 y1 y2 y3 (by rw[mont_mul,←Nat.pow_add,hg]at hr;rw[hr]at hy;exact hy)⟩
theorem sqs_e {X:Nat}:∀ {n e g:Nat} {a0 a1 a2 a3:Int} {K:Int→Int→Int→Int→Prop},EP X e a0 a1 a2 a3→e*2 ^ n=g→(∀y0 y1 y2 y3,EP X g y0 y1 y2 y3→K y0 y1 y2 y3)→sqs n a0 a1 a2 a3 K:=by
 intro n
 induction n with
 | zero=>
  intro e g a0 a1 a2 a3 K ha hg h
  have hg:e=g:=by omega
  rw[hg]at ha
  exact h _ _ _ _ ha
 | succ n ih=>
  intro e g a0 a1 a2 a3 K ha hg h
  have e2:(e+e)*2 ^ n=g:=by rw[←hg,Nat.pow_succ,←Nat.two_mul,Nat.mul_comm 2 e,Nat.mul_assoc,Nat.mul_comm 2]
  exact mulC_e ha ha rfl fun y0 y1 y2 y3 hy=>ih hy e2 h
theorem es_walk {X:Nat} {x0 x1 x2 x3:Int} {K:SV→Mem→Prop} (hup:KUp K) (hx:EP X 1 x0 x1 x2 x3) (hK:∀y0 y1 y2 y3,EP X e4N y0 y1 y2 y3→K (.ptr 1 (.lit 0)) (memL [(1,⟨false,w4 y0 y1 y2 y3⟩)])):
  EsC x0 x1 x2 x3 K:=by
 unfold EsC
 refine mulC_e (g:=2) hx hx rfl ?_
 intro a0 b0 c0 d0 h0
 refine mulC_e (g:=3) hx h0 rfl ?_
 intro a1 b1 c1 d1 h1
 refine mulC_e (g:=5) h0 h1 rfl ?_
 intro a2 b2 c2 d2 h2
 refine mulC_e (g:=6) hx h2 rfl ?_
 intro a3 b3 c3 d3 h3
 refine mulC_e (g:=7) hx h3 rfl ?_
 intro a4 b4 c4 d4 h4
 refine mulC_e (g:=11) h2 h3 rfl ?_
 intro a5 b5 c5 d5 h5
 refine mulC_e (g:=12) hx h5 rfl ?_
 intro a6 b6 c6 d6 h6
 refine mulC_e (g:=13) hx h6 rfl ?_
 intro a7 b7 c7 d7 h7
 refine mulC_e (g:=15) h0 h7 rfl ?_
 intro a8 b8 c8 d8 h8
 refine mulC_e (g:=17) h0 h8 rfl ?_
 intro a9 b9 c9 d9 h9
 refine mulC_e (g:=19) h0 h9 rfl ?_
 intro a10 b10 c10 d10 h10
 refine mulC_e (g:=23) h3 h9 rfl ?_
 intro a11 b11 c11 d11 h11
 refine mulC_e (g:=25) h0 h11 rfl ?_
 intro a12 b12 c12 d12 h12
 refine mulC_e (g:=27) h0 h12 rfl ?_
 intro a13 b13 c13 d13 h13
 refine mulC_e (g:=31) h3 h12 rfl ?_
 intro a14 b14 c14 d14 h14
 refine mulC_e (g:=35) h6 h11 rfl ?_
 intro a15 b15 c15 d15 h15
 refine mulC_e (g:=39) h6 h13 rfl ?_
 intro a16 b16 c16 d16 h16
 refine mulC_e (g:=41) h0 h16 rfl ?_
 intro a17 b17 c17 d17 h17
 refine mulC_e (g:=43) h0 h17 rfl ?_
 intro a18 b18 c18 d18 h18
 refine mulC_e (g:=45) h0 h18 rfl ?_
 intro a19 b19 c19 d19 h19
 refine mulC_e (g:=57) h6 h19 rfl ?_
 intro a20 b20 c20 d20 h20
 refine mulC_e (g:=96) h16 h20 rfl ?_
 intro a21 b21 c21 d21 h21
 refine sqs_e (g:=3072) h21 rfl ?_
 intro a22 b22 c22 d22 h22
 refine mulC_e (g:=3097) h12 h22 rfl ?_
 intro a23 b23 c23 d23 h23
 refine sqs_e (g:=1585664) h23 rfl ?_
 intro a24 b24 c24 d24 h24
 refine mulC_e (g:=1585703) h16 h24 rfl ?_
 intro a25 b25 c25 d25 h25
 refine sqs_e (g:=405939968) h25 rfl ?_
 intro a26 b26 c26 d26 h26
 refine mulC_e (g:=405940025) h20 h26 rfl ?_
 intro a27 b27 c27 d27 h27
 refine sqs_e (g:=6495040400) h27 rfl ?_
 intro a28 b28 c28 d28 h28
 refine mulC_e (g:=6495040407) h4 h28 rfl ?_
 intro a29 b29 c29 d29 h29
 refine sqs_e (g:=3325460688384) h29 rfl ?_
 intro a30 b30 c30 d30 h30
 refine mulC_e (g:=3325460688403) h10 h30 rfl ?_
 intro a31 b31 c31 d31 h31
 refine sqs_e (g:=425658968115584) h31 rfl ?_
 intro a32 b32 c32 d32 h32
 refine mulC_e (g:=425658968115597) h7 h32 rfl ?_
 intro a33 b33 c33 d33 h33
 refine sqs_e (g:=3486998266802970624) h33 rfl ?_
 intro a34 b34 c34 d34 h34
 refine mulC_e (g:=3486998266802970665) h17 h34 rfl ?_
 intro a35 b35 c35 d35 h35
 refine sqs_e (g:=111583944537695061280) h35 rfl ?_
 intro a36 b36 c36 d36 h36
 refine mulC_e (g:=111583944537695061303) h11 h36 rfl ?_
 intro a37 b37 c37 d37 h37
 refine sqs_e (g:=14282744900824967846784) h37 rfl ?_
 intro a38 b38 c38 d38 h38
 refine mulC_e (g:=14282744900824967846789) h2 h38 rfl ?_
 intro a39 b39 c39 d39 h39
 refine sqs_e (g:=14625530778444767075111936) h39 rfl ?_
 intro a40 b40 c40 d40 h40
 refine mulC_e (g:=14625530778444767075111953) h9 h40 rfl ?_
 intro a41 b41 c41 d41 h41
 refine sqs_e (g:=936033969820465092807164992) h41 rfl ?_
 intro a42 b42 c42 d42 h42
 refine mulC_e (g:=936033969820465092807165019) h13 h42 rfl ?_
 intro a43 b43 c43 d43 h43
 refine sqs_e (g:=29953087034254882969829280608) h43 rfl ?_
 intro a44 b44 c44 d44 h44
 refine mulC_e (g:=29953087034254882969829280621) h7 h44 rfl ?_
 intro a45 b45 c45 d45 h45
 refine sqs_e (g:=7667990280769250040276295838976) h45 rfl ?_
 intro a46 b46 c46 d46 h46
 refine mulC_e (g:=7667990280769250040276295838979) h1 h46 rfl ?_
 intro a47 b47 c47 d47 h47
 refine sqs_e (g:=31408088190030848164971707756457984) h47 rfl ?_
 intro a48 b48 c48 d48 h48
 refine mulC_e (g:=31408088190030848164971707756458027) h18 h48 rfl ?_
 intro a49 b49 c49 d49 h49
 refine sqs_e (g:=16080941153295794260465514371306509824) h49 rfl ?_
 intro a50 b50 c50 d50 h50
 refine mulC_e (g:=16080941153295794260465514371306509847) h11 h50 rfl ?_
 intro a51 b51 c51 d51 h51
 refine sqs_e (g:=1029180233810930832669792919763616630208) h51 rfl ?_
 intro a52 b52 c52 d52 h52
 refine mulC_e (g:=1029180233810930832669792919763616630233) h12 h52 rfl ?_
 intro a53 b53 c53 d53 h53
 refine sqs_e (g:=32933767481949786645433373432435732167456) h53 rfl ?_
 intro a54 b54 c54 d54 h54
 refine mulC_e (g:=32933767481949786645433373432435732167471) h8 h54 rfl ?_
 intro a55 b55 c55 d55 h55
 refine sqs_e (g:=134896711606066326099695097579256758957961216) h55 rfl ?_
 intro a56 b56 c56 d56 h56
 refine mulC_e (g:=134896711606066326099695097579256758957961261) h19 h56 rfl ?_
 intro a57 b57 c57 d57 h57
 refine sqs_e (g:=17266779085576489740760972490144865146619041408) h57 rfl ?_
 intro a58 b58 c58 d58 h58
 refine mulC_e (g:=17266779085576489740760972490144865146619041449) h17 h58 rfl ?_
 intro a59 b59 c59 d59 h59
 refine sqs_e (g:=8840590891815162747269617914954170955068949221888) h59 rfl ?_
 intro a60 b60 c60 d60 h60
 refine mulC_e (g:=8840590891815162747269617914954170955068949221933) h19 h60 rfl ?_
 intro a61 b61 c61 d61 h61
 refine sqs_e (g:=1131595634152340831650511093114133882248825500407424) h61 rfl ?_
 intro a62 b62 c62 d62 h62
 refine mulC_e (g:=1131595634152340831650511093114133882248825500407431) h4 h62 rfl ?_
 intro a63 b63 c63 d63 h63
 refine sqs_e (g:=579376964685998505805061679674436547711398656208604672) h63 rfl ?_
 intro a64 b64 c64 d64 h64
 refine mulC_e (g:=579376964685998505805061679674436547711398656208604729) h20 h64 rfl ?_
 intro a65 b65 c65 d65 h65
 refine sqs_e (g:=9270031434975976092880986874790984763382378499337675664) h65 rfl ?_
 intro a66 b66 c66 d66 h66
 refine mulC_e (g:=9270031434975976092880986874790984763382378499337675669) h2 h66 rfl ?_
 intro a67 b67 c67 d67 h67
 refine sqs_e (g:=1186564023676924939888766319973246049712944447915222485632) h67 rfl ?_
 intro a68 b68 c68 d68 h68
 refine mulC_e (g:=1186564023676924939888766319973246049712944447915222485645) h7 h68 rfl ?_
 intro a69 b69 c69 d69 h69
 refine sqs_e (g:=75940097515323196152881044478287747181628444666574239081280) h69 rfl ?_
 intro a70 b70 c70 d70 h70
 refine mulC_e (g:=75940097515323196152881044478287747181628444666574239081295) h8 h70 rfl ?_
 intro a71 b71 c71 d71 h71
 refine sqs_e (g:=2430083120490342276892193423305207909812110229330375650601440) h71 rfl ?_
 intro a72 b72 c72 d72 h72
 refine mulC_e (g:=2430083120490342276892193423305207909812110229330375650601441) hx h72 rfl ?_
 intro a73 b73 c73 d73 h73
 refine sqs_e (g:=4976810230764220983075212130929065799295201749668609332431751168) h73 rfl ?_
 intro a74 b74 c74 d74 h74
 refine mulC_e (g:=4976810230764220983075212130929065799295201749668609332431751203) h15 h74 rfl ?_
 intro a75 b75 c75 d75 h75
 refine sqs_e (g:=10192507352605124573338034444142726756956573183321311912820226463744) h75 rfl ?_
 intro a76 b76 c76 d76 h76
 refine mulC_e (g:=10192507352605124573338034444142726756956573183321311912820226463789) h19 h76 rfl ?_
 intro a77 b77 c77 d77 h77
 refine sqs_e (g:=163080117641681993173408551106283628111305170933140990605123623420624) h77 rfl ?_
 intro a78 b78 c78 d78 h78
 refine mulC_e (g:=163080117641681993173408551106283628111305170933140990605123623420635) h5 h78 rfl ?_
 intro a79 b79 c79 d79 h79
 refine sqs_e (g:=83497020232541180504785178166417217592988247517768187189823295191365120) h79 rfl ?_
 intro a80 b80 c80 d80 h80
 refine mulC_e (g:=83497020232541180504785178166417217592988247517768187189823295191365151) h14 h80 rfl ?_
 intro a81 b81 c81 d81 h81
 refine sqs_e (g:=21375237179530542209225005610602807703804991364548655920594763568989478656) h81 rfl ?_
 intro a82 b82 c82 d82 h82
 refine mulC_e (g:=21375237179530542209225005610602807703804991364548655920594763568989478713) h20 h82 rfl ?_
 intro a83 b83 c83 d83 h83
 refine mulC_e (g:=21375237179530542209225005610602807703804991364548655920594763568989478719) h3 h83 rfl ?_
 intro a84 b84 c84 d84 h84
 refine sqs_e (g:=2736030358979909402780800718157159386087038894662227957836129736830653276032) h84 rfl ?_
 intro a85 b85 c85 d85 h85
 refine mulC_e (g:=2736030358979909402780800718157159386087038894662227957836129736830653276073) h17 h85 rfl ?_
 intro a86 b86 c86 d86 h86
 refine mulC_e (g:=5472060717959818805561601436314318772174077789324455915672259473661306552146) h86 h86 rfl ?_
 intro a87 b87 c87 d87 h87
 refine hup.le (memL_sub [1,513,529,537,545,553,561,569,577,585,593,601,609,617,625,633,641,649,657,665,673] rfl (by decide) (by
  intro x hx
  simp only[List.mem_cons,List.not_mem_nil,or_false]at hx ⊢
  simp[hx])) (hK _ _ _ _ h87)
def EsR (X:Nat) (y0 y1 y2 y3:Int):Prop:=EP X e4N y0 y1 y2 y3
theorem EsR.el {X:Nat} {a b c d:Int} (h:EsR X a b c d):El a b c d (mont (X ^ e4N)):=h
theorem EsR.ex (X:Nat):∃a b c d,EsR X a b c d:=⟨_,_,_,_,El.of (mont_lt _)⟩
def gEs:G0:=fun args l K=>
 match args,l with
 | [.ptr 1 (.lit 0),.agg [.int .u64 (.sym a0),.int .u64 (.sym a1),.int .u64 (.sym a2),.int .u64 (.sym a3)]],[(1,⟨false,z⟩)]=>c4 z fun _ _ _ _=>∃X,El a0 a1 a2 a3 (mont X)∧∀y0 y1 y2 y3,EsR X y0 y1 y2 y3→K (.ptr 1 (.lit 0)) (memL [(1,⟨false,w4 y0 y1 y2 y3⟩)])
 | _,_=>False
theorem es_good:Good gEs:=by
 constructor
 ·intro args l K K' hk h
  unfold gEs at h ⊢
  split at h
  ·exact c4_mono (fun _ _ _ _ h=>h.elim fun X h=>⟨X,h.1,fun y0 y1 y2 y3 hy=>hk _ _ (h.2 y0 y1 y2 y3 hy)⟩) h
  ·exact h.elim
 ·intro args l K h
  unfold gEs at h
  split at h
  ·obtain ⟨_,_,_,_,_,h⟩:=c4_ex h
   obtain ⟨X,_,h⟩:=h
   obtain ⟨a,b,c,d,e⟩:=EsR.ex X
   exact ⟨_,_,h _ _ _ _ e⟩
  ·exact h.elim
theorem es_ok (args:List SV) (l:List (Nat×Reg)) (K:SV→Mem→Prop) (hup:KUp K) (h:gEs args l K):∃U,execF cxEs U Tryz.f85 64 args (memL l) K:=by
 unfold gEs at h
 split at h
 ·rename_i a0 a1 a2 a3 zz
  obtain ⟨z0,z1,z2,z3,rfl,q0⟩:=c4_ex h
  obtain ⟨X,hx,hK⟩:=q0
  have hx:EP X 1 a0 a1 a2 a3:=by unfold EP;rw[Nat.pow_one];exact hx
  refine ⟨uEs,?_⟩
  have:=vc_es z0 z1 z2 z3 a0 a1 a2 a3 K
  unfold ag4 at this
  rw[this]
  exact es_walk hup hx fun y0 y1 y2 y3 hy=>hK y0 y1 y2 y3 hy
 ·exact h.elim
def kEs:Ef Tryz.prog:=mkE mixed 85 Tryz.func85 (by decide) (by kernel_rfl) [] [.ptr 4 false,.num] gEs es_good es_ok
end Go.Sx
namespace Go.Sx
open Go Go.Num
def mxN (A:Nat):Nat:=if sqN (gN (x1N A))=true then x1N A else if sqN (gN (x2N A))=true then x2N A else x3N A
def myN (A:Nat):Nat:=if rtN (gN (mxN A))%2=A%2 then rtN (gN (mxN A))else (0+(qN-rtN (gN (mxN A))))%qN
theorem mxN_lt (A:Nat):mxN A<qN:=by
 unfold mxN
 split
 ·exact Nat.mod_lt _ (by decide)
 ·split
  ·exact Nat.mod_lt _ (by decide)
  ·exact Nat.mod_lt _ (by decide)
theorem myN_lt (A:Nat):myN A<qN:=by
 unfold myN
 split
 ·exact rtN_lt _
 ·exact Nat.mod_lt _ (by decide)
end Go.Sx
namespace Go.Sx
open Go Go.Proofs Go.Num
set_option maxRecDepth 100000
instance (x:Int):Decidable (Wd x):=by unfold Wd;infer_instance
theorem A4_eq {a b c d e f g h:Int} (k:W4 a b c d) (l:W4 e f g h):A4 a b c d e f g h=(N4 a b c d+N4 e f g h)%qN:=by
 unfold A4 N4
 rw[(ws_of k.1 k.2.1 k.2.2.1 k.2.2.2).val,(ws_of l.1 l.2.1 l.2.2.1 l.2.2.2).val,Int.toNat_natCast,Int.toNat_natCast]
 unfold qN
 omega
theorem Z4_0:Z4 0 0 0 0=True:=by simp[Z4]
theorem qI_eq:qI=(qN:Int):=rfl
theorem N4l {v:Nat} (h:v<qN):N4 (lm v 0) (lm v 1) (lm v 2) (lm v 3)=v:=Vx (ws_q h)
theorem N4q (a:Nat):N4 (lm (a%qN) 0) (lm (a%qN) 1) (lm (a%qN) 2) (lm (a%qN) 3)=a%qN:=N4l (Nat.mod_lt _ (by decide))
theorem N4i (a:Nat):N4 (lm (inv0 a) 0) (lm (inv0 a) 1) (lm (inv0 a) 2) (lm (inv0 a) 3)=inv0 a:=N4l (inv0_lt a)
theorem N4r (a:Nat):N4 (lm (rtN a) 0) (lm (rtN a) 1) (lm (rtN a) 2) (lm (rtN a) 3)=rtN a:=N4l (rtN_lt a)
theorem N4n (n:Nat):N4 n 0 0 0=n:=by unfold N4 V4;omega
theorem N4_0:N4 0 0 0 0=0:=N4n 0
theorem N4_1:N4 1 0 0 0=1:=N4n 1
theorem N4_2:N4 2 0 0 0=2:=N4n 2
theorem N4_3:N4 3 0 0 0=3:=N4n 3
theorem N4_4:N4 4 0 0 0=4:=N4n 4
theorem W4l (v:Nat):W4 (lm v 0) (lm v 1) (lm v 2) (lm v 3)=True:=eq_true (lm4_wd v)
theorem W4n {n:Int} (h:Wd n):W4 n 0 0 0=True:=eq_true ⟨h,wd0,wd0,wd0⟩
theorem W4_0:W4 0 0 0 0=True:=W4n (by decide)
theorem W4_1:W4 1 0 0 0=True:=W4n (by decide)
theorem W4_2:W4 2 0 0 0=True:=W4n (by decide)
theorem W4_3:W4 3 0 0 0=True:=W4n (by decide)
theorem W4_4:W4 4 0 0 0=True:=W4n (by decide)
theorem Vlt {v:Nat} (h:v<qN):(V4 (lm v 0) (lm v 1) (lm v 2) (lm v 3)<qI)=True:=eq_true (by rw[(ws_q h).val,qI_eq];omega)
theorem Vq_lt (a:Nat):(V4 (lm (a%qN) 0) (lm (a%qN) 1) (lm (a%qN) 2) (lm (a%qN) 3)<qI)=True:=Vlt (Nat.mod_lt _ (by decide))
theorem Vi_lt (a:Nat):(V4 (lm (inv0 a) 0) (lm (inv0 a) 1) (lm (inv0 a) 2) (lm (inv0 a) 3)<qI)=True:=Vlt (inv0_lt a)
theorem Vr_lt (a:Nat):(V4 (lm (rtN a) 0) (lm (rtN a) 1) (lm (rtN a) 2) (lm (rtN a) 3)<qI)=True:=Vlt (rtN_lt a)
theorem V0_lt:(V4 0 0 0 0<qI)=True:=by decide
theorem V1_lt:(V4 1 0 0 0<qI)=True:=by decide
theorem V2_lt:(V4 2 0 0 0<qI)=True:=by decide
theorem V3_lt:(V4 3 0 0 0<qI)=True:=by decide
theorem V4_lt':(V4 4 0 0 0<qI)=True:=by decide
theorem z_lt:((0:Int)<qI)=True:=by decide
def cxBc:Cx Tryz.prog:= { rds:= [],efs:= [cSu],eqs:= [] }
theorem vc_bc (K:SV→Mem→Prop):(execF cxBc u9 Tryz.f79 64 [] (memL []) K)=(Wd 3∧∀a:Nat,a=19052624634359457937016868847204597229365286637454337178037183604060995791063→K (.ptr 521 (.lit 0)) (memL [(521,⟨false,.cells
 [.int .u64 (.sym (lm a 0)),.int .u64 (.sym (lm a 1)),.int .u64 (.sym (lm a 2)),.int .u64 (.sym (lm a 3))]⟩)])):=by kernel_rfl
def BcR (y0 y1 y2 y3:Int):Prop:=El y0 y1 y2 y3 (mont 3)
theorem mont3:mont 3=19052624634359457937016868847204597229365286637454337178037183604060995791063:=by decide +kernel
def gBc:G0:=fun args l K=>
 match args,l with
 | [],[]=>∀y0 y1 y2 y3,BcR y0 y1 y2 y3→K (.ptr 521 (.lit 0)) (memL [(521,⟨false,w4 y0 y1 y2 y3⟩)])
 | _,_=>False
theorem bc_good:Good gBc:=by
 constructor
 ·intro args l K K' hk h
  unfold gBc at h ⊢
  split at h
  ·exact fun y0 y1 y2 y3 hy=>hk _ _ (h y0 y1 y2 y3 hy)
  ·exact h.elim
 ·intro args l K h
  unfold gBc at h
  split at h
  ·exact ⟨_,_,h _ _ _ _ (El.of (mont_lt 3))⟩
  ·exact h.elim
theorem bc_ok (args:List SV) (l:List (Nat×Reg)) (K:SV→Mem→Prop) (hup:KUp K) (h:gBc args l K):∃U,execF cxBc U Tryz.f79 64 args (memL l) K:=by
 unfold gBc at h
 split at h
 ·refine ⟨u9,?_⟩
  rw[vc_bc]
  refine ⟨by decide,fun r hr=> ?_⟩
  have:=h _ _ _ _ (El.of (mont_lt 3))
  rw[hr,←mont3]
  exact this
 ·exact h.elim
def kBc:Ef Tryz.prog:=mkNw mixed 79 Tryz.func79 (by decide) (by kernel_rfl) [] [] gBc bc_good bc_ok
def cxSg:Cx Tryz.prog:= { rds:= [cBits],efs:= [],eqs:= [] }
theorem vc_sg (a0 a1 a2 a3:Int) (K:SV→Mem→Prop):(execF cxSg u9 Tryz.f103 64 [.ptr 1 (.lit 0)] (memL [(1,⟨true,w4 a0 a1 a2 a3⟩)]) K)=(W4 a0 a1 a2 a3∧B4 (bitsV a0 a1 a2 a3 0) (bitsV a0 a1 a2 a3 1) (bitsV a0 a1 a2 a3 2) (bitsV
 a0 a1 a2 a3 3) fun a b c d=>B1 (Int.tmod a 2) fun e=>K (U e) (memL [(1,⟨true,.cells [U a0,U a1,U a2,U a3]⟩),(537,⟨false,.cells [U a,U b,U c,U d]⟩)])):=by kernel_rfl
def rSg:R0:=fun args l=>
 match args,l with
 | [.ptr 1 (.lit 0)],[(1,⟨true,x⟩)]=>r4 x fun a b c d=>some (some (Wd a∧Wd b∧Wd c∧Wd d),.int .u64 (.sym ((mmul (V4 a b c d).toNat 1%2:Nat):Int)))
 | _,_=>none
theorem sg_val {a b c d:Int}:Int.tmod (bitsV a b c d 0) 2=((mmul (V4 a b c d).toNat 1%2:Nat):Int):=by
 unfold bitsV
 exact par (ws_q (mmul_lt _ _))
theorem sg_ok (args:List SV) (l:List (Nat×Reg)) (p:Ob) (v:SV) (h:rSg args l=some (p,v)) (hp:p.ok):∃U,execF cxSg U Tryz.f103 64 args (memL l) fun v' _=>v'=v:=by
 unfold rSg at h
 split at h
 ·rename_i x
  obtain ⟨a,b,c,d,rfl,q⟩:=r4_ex h
  simp only[Option.some.injEq,Prod.mk.injEq]at q
  obtain ⟨rfl,rfl⟩:=q
  refine ⟨u9,?_⟩
  rw[vc_sg]
  refine ⟨hp,?_⟩
  rw[B4_eq,B1_eq,sg_val]
  rfl
 ·cases h
def cSg:Rd Tryz.prog:=mkR mixed 103 Tryz.func103 (by decide) (by kernel_rfl) [] [.ptr 4 true] rSg sg_ok
def cxSq:Cx Tryz.prog:= { rds:= [cEq],efs:= [kEs,kSqr,kSet],eqs:= [] }
theorem vc_sqt (z0 z1 z2 z3 a0 a1 a2 a3:Int) (K:SV→Mem→Prop):(execF cxSq u9 Tryz.f84 64 [.ptr 1 (.lit 0),.ptr 9 (.lit 0)] (memL [(1,⟨false,w4 z0 z1 z2 z3⟩),(9,⟨true,w4 a0 a1 a2 a3⟩)]) K)=(B4 a0 a1 a2 a3 fun m n o p=>∃i
 :Nat,El m n o p (mont i)∧∀a b c d:Int,EsR i a b c d→∃j k:Nat,(Ws a b c d j∧El a b c d k)∧∀l:Nat,l=mmul j k→∀e f g h:Int,El e f g h l→(W4 e f g h∧W4 a0 a1 a2 a3)∧(decide (V4 e f g h=V4 a0 a1 a2 a3)=
 true→K (.ptr 1 (.lit 0)) (memL [(1,⟨false,.cells [.int .u64 (.sym a),.int .u64 (.sym b),.int .u64 (.sym c),.int .u64 (.sym d)]⟩),(9,⟨true,.cells [U a0,U a1,U a2,U a3]⟩),(521,⟨false,.cells [.int .u64 (.sym a),.int .u64
 (.sym b),.int .u64 (.sym c),.int .u64 (.sym d)]⟩),(529,⟨false,.cells [.int .u64 (.sym e),.int .u64 (.sym f),.int .u64 (.sym g),.int .u64 (.sym h)]⟩)]))∧(decide (V4 e f g h=V4 a0 a1 a2 a3)=false→K (.val (.pointer none))
 (memL [(1,⟨false,.cells [U z0,U z1,U z2,U z3]⟩),(9,⟨true,.cells [U a0,U a1,U a2,U a3]⟩),(521,⟨false,.cells [.int .u64 (.sym a),.int .u64 (.sym b),.int .u64 (.sym c),.int .u64 (.sym d)]⟩),(529,⟨false,.cells [.int .u64
 (.sym e),.int .u64 (.sym f),.int .u64 (.sym g),.int .u64 (.sym h)]⟩)]))):=by kernel_rfl
theorem sqt_eq {X:Nat} (h:sqN (X%qN)=true):mmul (mont (X ^ e4N)) (mont (X ^ e4N))=mont X:=by
 rw[mont_mul,←mont_mod (X ^ e4N*X ^ e4N),←mont_mod X]
 unfold sqN at h
 have h:=of_decide_eq_true h
 rw[rtN_eq,Nat.pow_mod,Nat.mod_mod,←Nat.pow_mod,←Nat.mul_mod]at h
 rw[h]
theorem EsR.rt {X:Nat} {a b c d:Int} (h:EsR X a b c d):El a b c d (mont (rtN (X%qN))):=by
 have:=h.el
 rw[←mont_mod,Nat.pow_mod,←rtN_eq]at this
 exact this
def gSqt:G0:=fun args l K=>
 match args,l with
 | [.ptr 1 (.lit 0),.ptr 9 (.lit 0)],[(1,⟨false,z⟩),(9,⟨true,x⟩)]=>c4 z fun _ _ _ _=>c4 x fun a0 a1 a2 a3=>∃X,(El a0 a1 a2 a3 (mont X)∧sqN (X%qN)=true)∧∀y0 y1 y2 y3,EsR X y0 y1 y2 y3→K (.ptr 1 (.lit 0)) (memL [(1,⟨false,w4 y0 y1 y2 y3⟩),(9,⟨true,w4 a0 a1 a2 a3⟩)])
 | _,_=>False
theorem sqt_good:Good gSqt:=by
 constructor
 ·intro args l K K' hk h
  unfold gSqt at h ⊢
  split at h
  ·exact c4_mono (fun _ _ _ _ h=>c4_mono (fun _ _ _ _ h=>h.elim fun X h=>⟨X,h.1,fun y0 y1 y2 y3 hy=>hk _ _ (h.2 y0 y1 y2 y3 hy)⟩) h) h
  ·exact h.elim
 ·intro args l K h
  unfold gSqt at h
  split at h
  ·obtain ⟨_,_,_,_,_,h⟩:=c4_ex h
   obtain ⟨_,_,_,_,_,h⟩:=c4_ex h
   obtain ⟨X,_,h⟩:=h
   obtain ⟨a,b,c,d,e⟩:=EsR.ex X
   exact ⟨_,_,h _ _ _ _ e⟩
  ·exact h.elim
theorem sqt_ok (args:List SV) (l:List (Nat×Reg)) (K:SV→Mem→Prop) (hup:KUp K) (h:gSqt args l K):∃U,execF cxSq U Tryz.f84 64 args (memL l) K:=by
 unfold gSqt at h
 split at h
 ·obtain ⟨z0,z1,z2,z3,rfl,q0⟩:=c4_ex h
  obtain ⟨a0,a1,a2,a3,rfl,q1⟩:=c4_ex q0
  obtain ⟨X,⟨hx,hs⟩,hK⟩:=q1
  refine ⟨u9,?_⟩
  rw[vc_sqt z0 z1 z2 z3 a0 a1 a2 a3,B4_eq]
  refine ⟨X,hx,fun y0 y1 y2 y3 hy=>⟨_,_,⟨hy.el.ws,hy.el⟩,?_⟩⟩
  rw[sqt_eq hs]
  rintro _ rfl s0 s1 s2 s3 hq
  refine ⟨⟨hq.wd,hx.wd⟩,fun _=> ?_,fun h=> ?_⟩
  ·exact hup.le (memL_sub [1,9,521,529] rfl (by decide) (by
    intro x hx
    simp only[List.mem_cons,List.not_mem_nil,or_false]at hx ⊢
    rcases hx with hx | hx<;>simp[hx,w4,U])) (hK y0 y1 y2 y3 hy)
  ·exact absurd (by rw[hq.val,hx.val]) (of_decide_eq_false h)
 ·exact h.elim
def kSqt:Ef Tryz.prog:=mkE mixed 84 Tryz.func84 (by decide) (by kernel_rfl) [] [.ptr 4 false,.ptr 4 true] gSqt sqt_good sqt_ok
def cxT:Cx Tryz.prog:= { rds:= [cBits],efs:= [],eqs:= [] }
theorem vc_told (a0 a1 a2 a3 b0 b1 b2 b3:Int) (K:SV→Mem→Prop):(execF cxT u9 Tryz.f24 64 [.agg [.int .u64 (.sym a0),.int .u64 (.sym a1),.int .u64 (.sym a2),.int .u64 (.sym a3),.int .u64 (.sym b0),.int .u64 (.sym b1),.int .u64
 (.sym b2),.int .u64 (.sym b3)]] (memL []) K)=(W4 a0 a1 a2 a3∧L4 (mmul (N4 a0 a1 a2 a3) 1) fun a b c d=>W4 b0 b1 b2 b3∧L4 (mmul (N4 b0 b1 b2 b3) 1) fun e f g h=>K (.agg [U a,U b,U c,U d,U e,U f,U g,U h]) (memL [(513,
 ⟨false,.cells [U a0,U a1,U a2,U a3,U b0,U b1,U b2,U b3]⟩),(521,⟨false,.cells [U a,U b,U c,U d,U e,U f,U g,U h]⟩)])):=by kernel_rfl def rTold:R0:=fun args l=>
 match args,l with
 | [.agg [.int .u64 (.sym a0),.int .u64 (.sym a1),.int .u64 (.sym a2),.int .u64 (.sym a3),.int .u64 (.sym b0),.int .u64 (.sym b1),.int .u64 (.sym b2),.int .u64 (.sym b3)]],[]=>some (some ((Wd a0∧Wd a1∧Wd a2∧Wd a3)∧(Wd b0∧Wd b1∧Wd b2∧Wd b3)),.agg [U (lm (mmul (V4 a0 a1 a2 a3).toNat 1) 0),U (lm (mmul (V4 a0 a1 a2 a3).toNat 1) 1),U (lm (mmul (V4 a0 a1 a2 a3).toNat 1) 2),U (lm (mmul (V4 a0 a1 a2 a3).toNat 1) 3),U (lm (mmul (V4 b0 b1 b2 b3).toNat 1) 0),U (lm (mmul (V4 b0 b1 b2 b3).toNat 1) 1),U (lm (mmul (V4 b0 b1 b2 b3).toNat 1) 2),U (lm (mmul (V4 b0 b1 b2 b3).toNat 1) 3)])
 | _,_=>none
theorem Told_ok (args:List SV) (l:List (Nat×Reg)) (p:Ob) (v:SV) (h:rTold args l=some (p,v)) (hp:p.ok):∃U,execF cxT U Tryz.f24 64 args (memL l) fun v' _=>v'=v:=by
 unfold rTold at h
 split at h
 ·rename_i a0 a1 a2 a3 b0 b1 b2 b3
  simp only[Option.some.injEq,Prod.mk.injEq]at h
  obtain ⟨rfl,rfl⟩:=h
  have hp:(Wd a0∧Wd a1∧Wd a2∧Wd a3)∧(Wd b0∧Wd b1∧Wd b2∧Wd b3):=hp
  refine ⟨u9,?_⟩
  rw[vc_told,L4_eq,L4_eq]
  exact ⟨hp.1,hp.2,rfl⟩
 ·cases h
def cTold:Rd Tryz.prog:=mkR mixed 24 Tryz.func24 (by decide) (by kernel_rfl) [] [.num] rTold Told_ok
def cxMc:Cx Tryz.prog:= { rds:= [cLgd,cSg],efs:= [kSo,kSqr,kMulA,kAddA,kSubA,kIv,kBc,kSel,kSqt,kNeg],eqs:= [] }
def bcC (K:Int→Int→Int→Int→Prop):Prop:=∀y0 y1 y2 y3,BcR y0 y1 y2 y3→K y0 y1 y2 y3
def ivC (a0 a1 a2 a3:Int) (K:Int→Int→Int→Int→Prop):Prop:=∃X,El a0 a1 a2 a3 (mont X)∧∀y0 y1 y2 y3,IvR X y0 y1 y2 y3→K y0 y1 y2 y3
def sqC (a0 a1 a2 a3:Int) (K:Int→Int→Int→Int→Prop):Prop:=∃X,(El a0 a1 a2 a3 (mont X)∧sqN (X%qN)=true)∧∀y0 y1 y2 y3,EsR X y0 y1 y2 y3→K y0 y1 y2 y3
def ngC (a0 a1 a2 a3:Int) (K:Int→Int→Int→Int→Prop):Prop:=∃x,El a0 a1 a2 a3 x∧∀r,r=negN x→∀y0 y1 y2 y3,El y0 y1 y2 y3 r→K y0 y1 y2 y3
def McC (a0 a1 a2 a3:Int) (P:SV→Prop):Prop:=
 mulC a0 a1 a2 a3 a0 a1 a2 a3 fun p0a p0b p0c p0d=>
 mulC p0a p0b p0c p0d 1248766071674976557 10548065924188627562 16242874202584236114 560012691975822483 fun p1a p1b p1c p1d=>
 addC 15230403791020821917 754611498739239741 7381016538464732716 1011752739694698287 p1a p1b p1c p1d fun p2a p2b p2c p2d=>
 subC 15230403791020821917 754611498739239741 7381016538464732716 1011752739694698287 p1a p1b p1c p1d fun p3a p3b p3c p3d=>
 mulC p3a p3b p3c p3d p2a p2b p2c p2d fun p4a p4b p4c p4d=>
 ivC p4a p4b p4c p4d fun p5a p5b p5c p5d=>
 mulC a0 a1 a2 a3 p3a p3b p3c p3d fun p6a p6b p6c p6d=>
 mulC p6a p6b p6c p6d p5a p5b p5c p5d fun p7a p7b p7c p7d=>
 mulC p7a p7b p7c p7d 8972444824031832946 5898165201680709844 10690697896010808308 824354360198587078 fun p8a p8b p8c p8d=>
 subC 12997850613838968789 14304628359724097447 2950087706404981016 1237622763554136189 p8a p8b p8c p8d fun p9a p9b p9c p9d=>
 mulC p9a p9b p9c p9d p9a p9b p9c p9d fun p10a p10b p10c p10d=>
 mulC p10a p10b p10c p10d p9a p9b p9c p9d fun p11a p11b p11c p11d=>
 bcC fun p12a p12b p12c p12d=>
 addC p11a p11b p11c p11d p12a p12b p12c p12d fun p13a p13b p13c p13d=>
 ((W4 p13a p13b p13c p13d∧V4 p13a p13b p13c p13d<qI)∧B1 (lgV (N4 p13a p13b p13c p13d)) fun l1=>B1 (shrv .i64 l1 1) fun s1=>
 addC 12997850613838968789 14304628359724097447 2950087706404981016 1237622763554136189 p8a p8b p8c p8d fun p14a p14b p14c p14d=>
 mulC p14a p14b p14c p14d p14a p14b p14c p14d fun p15a p15b p15c p15d=>
 mulC p15a p15b p15c p15d p14a p14b p14c p14d fun p16a p16b p16c p16d=>
 bcC fun p17a p17b p17c p17d=>
 addC p16a p16b p16c p16d p17a p17b p17c p17d fun p18a p18b p18c p18d=>
 ((W4 p18a p18b p18c p18d∧V4 p18a p18b p18c p18d<qI)∧B1 (lgV (N4 p18a p18b p18c p18d)) fun l2=>B1 (shrv .i64 l2 1) fun s2=>B1 (bxor .i64 (-1) s1) fun s3=>B1 (bor .i64 s2 s3) fun s4=>
 mulC p2a p2b p2c p2d p2a p2b p2c p2d fun p19a p19b p19c p19d=>
 mulC p19a p19b p19c p19d p5a p5b p5c p5d fun p20a p20b p20c p20d=>
 mulC p20a p20b p20c p20d p20a p20b p20c p20d fun p21a p21b p21c p21d=>
 mulC p21a p21b p21c p21d 12077013577332951089 1872782865047492001 13514471836495169457 415649166299893576 fun p22a p22b p22c p22d=>
 addC p22a p22b p22c p22d 15230403791020821917 754611498739239741 7381016538464732716 1011752739694698287 fun p23a p23b p23c p23d=>
 selC s1 p9a p9b p9c p9d p23a p23b p23c p23d fun p24a p24b p24c p24d=>
 selC s4 p14a p14b p14c p14d p24a p24b p24c p24d fun p25a p25b p25c p25d=>
 mulC p25a p25b p25c p25d p25a p25b p25c p25d fun p26a p26b p26c p26d=>
 mulC p26a p26b p26c p26d p25a p25b p25c p25d fun p27a p27b p27c p27d=>
 bcC fun p28a p28b p28c p28d=>
 addC p27a p27b p27c p27d p28a p28b p28c p28d fun p29a p29b p29c p29d=>
 sqC p29a p29b p29c p29d fun p30a p30b p30c p30d=>
 (W4 a0 a1 a2 a3∧B1 ((mmul (N4 a0 a1 a2 a3) 1%2:Nat):Int) fun g1=>(W4 p30a p30b p30c p30d∧B1 ((mmul (N4 p30a p30b p30c p30d) 1%2:Nat):Int) fun g2=>B1 (bxor .u64 g1 g2) fun g3=>
 ngC p30a p30b p30c p30d fun p31a p31b p31c p31d=>
 B1 (IntKind.i64.wrap g3) fun g4=>selC g4 p30a p30b p30c p30d p31a p31b p31c p31d fun p32a p32b p32c p32d=>
 B4 p25a p25b p25c p25d fun x0 x1 x2 x3=>B4 p32a p32b p32c p32d fun y0 y1 y2 y3=>P (.agg [U x0,U x1,U x2,U x3,U y0,U y1,U y2,U y3])))))
theorem vc_mc (a0 a1 a2 a3:Int) (P:SV→Prop):execF cxMc u9 Tryz.f54 64 [.ptr 1 (.lit 0)] (memL [(1,⟨true,w4 a0 a1 a2 a3⟩)]) (fun v _=>P v)=McC a0 a1 a2 a3 P:=by kernel_rfl
theorem mulC_m {X Y:Nat} {a0 a1 a2 a3 b0 b1 b2 b3:Int} {K:Int→Int→Int→Int→Prop} (ha:El a0 a1 a2 a3 (mont X)) (hb:El b0 b1 b2 b3 (mont Y)) (h:∀y0 y1 y2 y3,El y0 y1 y2 y3 (mont (X*Y%qN))→K y0 y1 y2 y3):mulC a0 a1 a2 a3 b0 b1 b2 b3 K:=
 ⟨_,_,⟨ha.ws,hb⟩,fun r hr y0 y1 y2 y3 hy=>h y0 y1 y2 y3 (by rw[mont_mul,←mont_mod]at hr;rw[hr]at hy;exact hy)⟩
theorem addC_m {X Y:Nat} {a0 a1 a2 a3 b0 b1 b2 b3:Int} {K:Int→Int→Int→Int→Prop} (ha:El a0 a1 a2 a3 (mont X)) (hb:El b0 b1 b2 b3 (mont Y)) (h:∀y0 y1 y2 y3,El y0 y1 y2 y3 (mont ((X+Y)%qN))→K y0 y1 y2 y3):addC a0 a1 a2 a3 b0 b1 b2 b3 K:=
 ⟨_,_,⟨ha,hb⟩,fun r hr y0 y1 y2 y3 hy=>h y0 y1 y2 y3 (by rw[mont_add,←mont_mod]at hr;rw[hr]at hy;exact hy)⟩
theorem mont_fz (x:Nat):fz (mont x)=fz x*fz (2 ^ 256):=by
 unfold mont mmul
 rw[fz_mod,fz_mul,fz_mul]
 have e:fz r2N*fz rInv=fz (2 ^ 256):=by
  rw[←fz_mul,fz_eq]
  decide +kernel
 rw[←e]
 grobner
theorem nat_fz {a b:Nat} (ha:a<qN) (hb:b<qN) (h:fz a=fz b):a=b:=by
 have:=fz_eq.1 h
 rwa [Nat.mod_eq_of_lt ha,Nat.mod_eq_of_lt hb]at this
theorem subN_fz {x y:Nat} (h:y≤qN):fz (subN x y)=fz x-fz y:=by
 unfold subN
 rw[fz_mod,fz_sub h]
theorem mont_sub {X Y:Nat} (hY:Y<qN):subN (mont X) (mont Y)=mont ((X+(qN-Y))%qN):=by
 refine nat_fz (show subN (mont X) (mont Y)<qN from Nat.mod_lt _ (by decide)) (mont_lt _) ?_
 rw[subN_fz (Nat.le_of_lt (mont_lt Y)),mont_fz,mont_fz,mont_fz,fz_mod,fz_sub (Nat.le_of_lt hY)]
 generalize fz (2 ^ 256)=R
 grobner
theorem mont_neg {Y:Nat} (hY:Y<qN):negN (mont Y)=mont ((0+(qN-Y))%qN):=by
 rw[←mont_sub hY,mont_zero]
 unfold negN subN
 rw[Nat.zero_add]
theorem subC_m {X Y:Nat} {a0 a1 a2 a3 b0 b1 b2 b3:Int} {K:Int→Int→Int→Int→Prop} (ha:El a0 a1 a2 a3 (mont X)) (hb:El b0 b1 b2 b3 (mont Y)) (hY:Y<qN) (h:∀y0 y1 y2 y3,El y0 y1 y2 y3 (mont ((X+(qN-Y))%qN))→K y0 y1 y2 y3):subC a0 a1 a2 a3 b0 b1 b2 b3 K:=
 ⟨_,_,⟨ha,hb⟩,fun r hr y0 y1 y2 y3 hy=>h y0 y1 y2 y3 (by rw[mont_sub hY]at hr;rw[hr]at hy;exact hy)⟩
theorem IvR.inv {X:Nat} {y0 y1 y2 y3:Int} (h:IvR X y0 y1 y2 y3) (hX:X<qN):El y0 y1 y2 y3 (mont (inv0 X)):=by
 obtain ⟨Y,hy,hl,h0,h1⟩:=h
 have e:Y=inv0 X:=by
  by_cases hx:X%qN=0
  ·rw[h0 hx]
   rw[Nat.mod_eq_of_lt hX]at hx
   rw[hx,inv0_zero]
  ·exact inv0_unique hl (by rw[Nat.mul_comm];exact h1 hx)
 rw[←e]
 exact hy
theorem ivC_m {X:Nat} {a0 a1 a2 a3:Int} {K:Int→Int→Int→Int→Prop} (ha:El a0 a1 a2 a3 (mont X)) (hX:X<qN) (h:∀y0 y1 y2 y3,El y0 y1 y2 y3 (mont (inv0 X))→K y0 y1 y2 y3):ivC a0 a1 a2 a3 K:=
 ⟨X,ha,fun y0 y1 y2 y3 hy=>h y0 y1 y2 y3 (hy.inv hX)⟩
theorem bcC_m {K:Int→Int→Int→Int→Prop} (h:∀y0 y1 y2 y3,El y0 y1 y2 y3 (mont 3)→K y0 y1 y2 y3):bcC K:=h
theorem sqC_m {X:Nat} {a0 a1 a2 a3:Int} {K:Int→Int→Int→Int→Prop} (ha:El a0 a1 a2 a3 (mont X)) (hX:X<qN) (hs:sqN X=true) (h:∀y0 y1 y2 y3,El y0 y1 y2 y3 (mont (rtN X))→K y0 y1 y2 y3):sqC a0 a1 a2 a3 K:=
 ⟨X,⟨ha,by rw[Nat.mod_eq_of_lt hX];exact hs⟩,fun y0 y1 y2 y3 hy=>h y0 y1 y2 y3 (by have:=hy.rt;rw[Nat.mod_eq_of_lt hX]at this;exact this)⟩
theorem ngC_m {X:Nat} {a0 a1 a2 a3:Int} {K:Int→Int→Int→Int→Prop} (ha:El a0 a1 a2 a3 (mont X)) (hX:X<qN) (h:∀y0 y1 y2 y3,El y0 y1 y2 y3 (mont ((0+(qN-X))%qN))→K y0 y1 y2 y3):ngC a0 a1 a2 a3 K:=
 ⟨_,ha,fun r hr y0 y1 y2 y3 hy=>h y0 y1 y2 y3 (by rw[mont_neg hX]at hr;rw[hr]at hy;exact hy)⟩
theorem mont_J (x:Nat) (h:x%qN≠0):J (mont x) qN=J x qN:=by
 have e:mont x%qN=x*(2 ^ 128*2 ^ 128)%qN:=by
  rw[←fz_eq,mont_fz,fz_mul,←Nat.pow_add]
 have n2:2 ^ 128%qN≠0:=by decide
 rw[←J_mod,e,J_mod,J_mulN h (mul_ne n2 n2),J_mulN n2 n2,J_self n2,Int.mul_one]
theorem lgV_mont {x:Nat} (h:x<qN):lgV (mont x)=lgN x:=by
 unfold lgV lgN
 by_cases h0:x=0
 ·rw[h0,mont_zero]
 ·have hm:mont x≠0:=by
   intro e
   have:=mont_back x
   rw[e,mmul_zero,Nat.mod_eq_of_lt h]at this
   exact h0 this.symm
  rw[if_neg hm,if_neg h0]
  exact mont_J x (by rw[Nat.mod_eq_of_lt h];exact h0)
theorem lg_sh {x:Nat} (h:x<qN):shrv .i64 (lgN x) 1=if sqN x=true then 0 else -1:=by
 by_cases hs:sqN x=true
 ·rw[if_pos hs]
  have hn:=(sqN_iff h).1 hs
  rcases lgN_cases h with e | e | e
  ·rw[e];rfl
  ·rw[e];rfl
  ·exact absurd e hn
 ·rw[if_neg hs]
  have e:lgN x= -1:=by
   rcases lgN_cases h with e | e | e
   ·exact absurd ((sqN_iff h).2 (by rw[e];decide)) hs
   ·exact absurd ((sqN_iff h).2 (by rw[e];decide)) hs
   ·exact e
  rw[e];rfl
theorem gN_comm (x:Nat):(x*x%qN*x%qN+3)%qN=gN x:=by
 unfold gN
 rw[Nat.mul_comm (x*x%qN)]
theorem selC_m {s:Int} {X Y:Nat} {a0 a1 a2 a3 b0 b1 b2 b3:Int} {K:Int→Int→Int→Int→Prop} (hs:s=0∨s=1∨s= -1) (ha:El a0 a1 a2 a3 (mont X)) (hb:El b0 b1 b2 b3 (mont Y)) (h:∀y0 y1 y2 y3,El y0 y1 y2 y3 (mont (if s=0 then X else Y))→K y0 y1 y2 y3):selC s a0 a1 a2 a3 b0 b1 b2 b3 K:=by
 refine ⟨⟨hs,ha.wd,hb.wd⟩,fun e=>h _ _ _ _ ?_,fun e=>h _ _ _ _ ?_⟩
 ·rw[if_pos e];exact ha
 ·rw[if_neg e];exact hb
end Go.Sx
namespace Go.Sx
open Go Go.Num
def mq (x y:Nat):Nat:=x*y%qN
def aq (x y:Nat):Nat:=(x+y)%qN
def dq (x y:Nat):Nat:=(x+(qN-y))%qN
theorem mq_lt (x y:Nat):mq x y<qN:=Nat.mod_lt _ (by decide)
theorem aq_lt (x y:Nat):aq x y<qN:=Nat.mod_lt _ (by decide)
theorem dq_lt (x y:Nat):dq x y<qN:=Nat.mod_lt _ (by decide)
theorem mq_fz (x y:Nat):fz (mq x y)=fz x*fz y:=by unfold mq;rw[fz_mod,fz_mul]
theorem aq_fz (x y:Nat):fz (aq x y)=fz x+fz y:=by unfold aq;rw[fz_mod,fz_add]
theorem dq_fz {x y:Nat} (h:y<qN):fz (dq x y)=fz x-fz y:=by unfold dq;rw[fz_mod,fz_sub (Nat.le_of_lt h)]
def jf1 (X Y:Nat) (n:Nat):Nat:=if X=0∧Y=0 then 1 else n
def jfZ (X Y:Nat):Nat:=if X=0∧Y=0 then 0 else 1
def dbD (X Y:Nat):Nat:=aq (dq (dq (mq (aq X (mq Y Y)) (aq X (mq Y Y))) (mq X X)) (mq (mq Y Y) (mq Y Y))) (dq (dq (mq (aq X (mq Y Y)) (aq X (mq Y Y))) (mq X X)) (mq (mq Y Y) (mq Y Y)))
def dbE (X:Nat):Nat:=aq (aq (mq X X) (mq X X)) (mq X X)
def dbX (X Y:Nat):Nat:=dq (mq (dbE X) (dbE X)) (aq (dbD X Y) (dbD X Y))
def db2 (x:Nat):Nat:=aq x x
def dbY (X Y:Nat):Nat:=dq (mq (dq (dbD X Y) (dbX X Y)) (dbE X)) (db2 (db2 (db2 (mq (mq Y Y) (mq Y Y)))))
def dbZ (Y Z:Nat):Nat:=db2 (mq Y Z)
def adU (X Z:Nat):Nat:=mq X (mq Z Z)
def adS (Y Z W:Nat):Nat:=mq (mq Y Z) (mq W W)
def chI (H:Nat):Nat:=mq (db2 H) (db2 H)
def chR (S1 S2:Nat):Nat:=db2 (dq S2 S1)
def chX (U1 U2 S1 S2:Nat):Nat:=dq (dq (dq (mq (chR S1 S2) (chR S1 S2)) (mq (dq U2 U1) (chI (dq U2 U1)))) (mq U1 (chI (dq U2 U1)))) (mq U1 (chI (dq U2 U1)))
def chY (U1 U2 S1 S2:Nat):Nat:=dq (mq (dq (mq U1 (chI (dq U2 U1))) (chX U1 U2 S1 S2)) (chR S1 S2)) (db2 (mq S1 (mq (dq U2 U1) (chI (dq U2 U1)))))
def chZ (U1 U2 Z1 Z2:Nat):Nat:=mq (dq (dq (mq (aq Z1 Z2) (aq Z1 Z2)) (mq Z2 Z2)) (mq Z1 Z1)) (dq U2 U1)
structure J3 where
 x:Nat
 y:Nat
 z:Nat
def jfr (X Y:Nat):J3:=⟨jf1 X Y X,jf1 X Y Y,jfZ X Y⟩
def dbl (p:J3):J3:=⟨dbX p.x p.y,dbY p.x p.y,dbZ p.y p.z⟩
def chd (p q:J3):J3:=
 ⟨chX (adU q.x p.z) (adU p.x q.z) (adS q.y p.z p.z) (adS p.y q.z q.z),chY (adU q.x p.z) (adU p.x q.z) (adS q.y p.z p.z) (adS p.y q.z q.z),chZ (adU q.x p.z) (adU p.x q.z) p.z q.z⟩
def jad (p q:J3):J3:=
 if p.z=0 then q else if q.z=0 then p else if adU q.x p.z=adU p.x q.z∧adS q.y p.z p.z=adS p.y q.z q.z then dbl p else chd p q
def jtX (p:J3):Nat:=if p.z=0 then 0 else mq p.x (mq (inv0 p.z) (inv0 p.z))
def jtY (p:J3):Nat:=if p.z=0 then 0 else mq (mq p.y (mq (inv0 p.z) (inv0 p.z))) (inv0 p.z)
def slC (X1 Y1 X2 Y2:Nat):Nat:=mq (dq Y2 Y1) (inv0 (dq X2 X1))
def slT (X1 Y1:Nat):Nat:=mq (mq 3 (mq X1 X1)) (inv0 (aq Y1 Y1))
def spX (s X1 X2:Nat):Nat:=dq (dq (mq s s) X1) X2
def spY (s X1 Y1 X2:Nat):Nat:=dq (mq s (dq X1 (spX s X1 X2))) Y1
def adX (X1 Y1 X2 Y2:Nat):Nat:=
 if X1=0∧Y1=0 then X2 else if X2=0∧Y2=0 then X1 else if X1≠X2 then spX (slC X1 Y1 X2 Y2) X1 X2 else if Y1=Y2∧Y1≠0 then spX (slT X1 Y1) X1 X2 else 0
def adY (X1 Y1 X2 Y2:Nat):Nat:=
 if X1=0∧Y1=0 then Y2 else if X2=0∧Y2=0 then Y1 else if X1≠X2 then spY (slC X1 Y1 X2 Y2) X1 Y1 X2 else if Y1=Y2∧Y1≠0 then spY (slT X1 Y1) X1 Y1 X2 else 0
theorem mq_one {x:Nat} (h:x<qN):mq x 1=x:=by unfold mq;rw[Nat.mul_one,Nat.mod_eq_of_lt h]
theorem mq11:mq 1 1=1:=by decide
theorem inv01:inv0 1=1:=(inv0_unique (by decide) (by decide)).symm
theorem mq_zero (x:Nat):mq x 0=0:=by unfold mq;rw[Nat.mul_zero,Nat.zero_mod]
theorem dq_self {x:Nat} (h:x<qN):dq x x=0:=by
 unfold dq
 rw[Nat.add_sub_cancel' (Nat.le_of_lt h),Nat.mod_self]
theorem nfz {a b:Nat} (ha:a<qN) (hb:b<qN) (h:fz a=fz b):a=b:=by
 have:=fz_eq.1 h
 rwa [Nat.mod_eq_of_lt ha,Nat.mod_eq_of_lt hb]at this
theorem fz0:fz 0=0:=rfl
theorem fz1:fz 1=1:=rfl
theorem inv_fz {a:Nat} (ha:a<qN) (h:a≠0):fz (inv0 a)*fz a=1:=by
 rw[←fz_mul,←fz1,fz_eq]
 rw[inv0_mul (by rw[Nat.mod_eq_of_lt ha];exact h)]
 decide
theorem two_fz:∃t:Fin qN,t*2=1:=⟨fz (inv0 2),by
 show fz (inv0 2)*fz 2=fz 1
 rw[←fz_mul,fz_eq]
 decide +kernel⟩
theorem ch_eq {x0 y0 x1 y1 i j:Fin qN} (hi:i*(2*(x1-x0))=1) (hj:j*(x1-x0)=1):i*2=j:=by
 grobner
theorem spX_lt (s a b:Nat):spX s a b<qN:=dq_lt _ _
theorem spY_lt (s a b c:Nat):spY s a b c<qN:=dq_lt _ _
theorem chd_z {X0 X1:Nat}:fz (chZ X0 X1 1 1)=2*fz (dq X1 X0):=by
 unfold chZ
 rw[mq_fz,dq_fz (mq_lt _ _),dq_fz (mq_lt _ _),mq_fz,aq_fz,mq_fz,fz1]
 generalize fz (dq X1 X0)=H
 grobner
theorem db2_fz (x:Nat):fz (db2 x)=2*fz x:=by
 unfold db2
 rw[aq_fz]
 generalize fz x=X
 grobner
theorem db2_lt (x:Nat):db2 x<qN:=aq_lt _ _
theorem fz3:fz 3=3:=rfl
theorem chX_fz {X0 Y0 X1 Y1:Nat} (h0:X0<qN) (k0:Y0<qN):fz (chX X0 X1 Y0 Y1)=4*(fz Y1-fz Y0)*(fz Y1-fz Y0)-4*(fz X1-fz X0)*(fz X1-fz X0)*(fz X1-fz X0)-8*fz X0*(fz X1-fz X0)*(fz X1-fz X0):=by
 unfold chX chI chR
 rw[dq_fz (mq_lt _ _),dq_fz (mq_lt _ _),dq_fz (mq_lt _ _)]
 simp only[mq_fz,db2_fz]
 rw[dq_fz h0,dq_fz k0]
 generalize fz X0=a
 generalize fz X1=b
 generalize fz Y0=c
 generalize fz Y1=d
 grobner
theorem chX_lt (a b c d:Nat):chX a b c d<qN:=dq_lt _ _
theorem chY_fz {X0 Y0 X1 Y1:Nat} (h0:X0<qN) (k0:Y0<qN):fz (chY X0 X1 Y0 Y1)=(4*fz X0*(fz X1-fz X0)*(fz X1-fz X0)-fz (chX X0 X1 Y0 Y1))*(2*(fz Y1-fz Y0))-8*fz Y0*(fz X1-fz X0)*(fz X1-fz X0)*(fz X1-fz X0):=by
 unfold chY
 rw[dq_fz (db2_lt _),mq_fz,dq_fz (chX_lt _ _ _ _),db2_fz]
 generalize chX X0 X1 Y0 Y1=X
 unfold chI chR
 simp only[mq_fz,db2_fz]
 rw[dq_fz h0,dq_fz k0]
 generalize fz X0=a
 generalize fz X1=b
 generalize fz Y0=c
 generalize fz Y1=d
 generalize fz X=e
 grobner
theorem ch_fin {a b c d i j X:Fin qN} (hi:i*(2*(b-a))=1) (hj:j*(b-a)=1)
  (hX:X=4*(d-c)*(d-c)-4*(b-a)*(b-a)*(b-a)-8*a*(b-a)*(b-a)):
  X*(i*i)=(d-c)*j*((d-c)*j)-a-b:=by
 have e:i*2=j:=by grobner
 have e2:b=a+(b-a):=by grobner
 generalize b-a=H at *
 subst hX
 subst e2
 grobner
theorem ch_fin2 {a b c d i j X:Fin qN} (hi:i*(2*(b-a))=1) (hj:j*(b-a)=1):
  ((4*a*(b-a)*(b-a)-X)*(2*(d-c))-8*c*(b-a)*(b-a)*(b-a))*(i*i)*i=(d-c)*j*(a-X*(i*i))-c:=by
 have e:i*2=j:=by grobner
 generalize b-a=H at *
 have e3:i*H*2=1:=by grobner
 generalize d-c=D at *
 have e4:(4*a*H*H)*(2*D)*(i*i)*i=D*j*a:=by grobner
 have e5:8*c*H*H*H*(i*i)*i=c:=by grobner
 have e6:X*(2*D)*(i*i)*i=D*j*(X*(i*i)):=by grobner
 grobner
theorem dbX_fz {X Y:Nat}:fz (dbX X Y)=9*(fz X*fz X*fz X*fz X)-8*fz X*(fz Y*fz Y):=by
 unfold dbX dbD dbE
 rw[dq_fz (aq_lt _ _)]
 simp only[mq_fz,aq_fz]
 rw[dq_fz (mq_lt _ _),dq_fz (mq_lt _ _)]
 simp only[mq_fz,aq_fz]
 generalize fz X=x
 generalize fz Y=y
 grobner
theorem dbX_lt (a b:Nat):dbX a b<qN:=dq_lt _ _
theorem dbY_fz {X Y:Nat}:fz (dbY X Y)=(4*fz X*(fz Y*fz Y)-fz (dbX X Y))*(3*(fz X*fz X))-8*(fz Y*fz Y)*(fz Y*fz Y):=by
 unfold dbY
 rw[dq_fz (db2_lt _),mq_fz,dq_fz (dbX_lt _ _)]
 simp only[db2_fz]
 generalize dbX X Y=R
 unfold dbD dbE
 simp only[mq_fz,aq_fz]
 rw[dq_fz (mq_lt _ _),dq_fz (mq_lt _ _)]
 simp only[mq_fz,aq_fz]
 generalize fz X=x
 generalize fz Y=y
 generalize fz R=r
 grobner
theorem db_fin {x y i j X:Fin qN} (hi:i*(2*y)=1) (hj:j*(2*y)=1) (hX:X=9*(x*x*x*x)-8*x*(y*y)):
  X*(i*i)=3*(x*x)*j*(3*(x*x)*j)-x-x:=by
 have e:i=j:=by grobner
 subst e
 subst hX
 grobner
theorem db_fin2 {x y i j X:Fin qN} (hi:i*(2*y)=1) (hj:j*(2*y)=1):
  ((4*x*(y*y)-X)*(3*(x*x))-8*(y*y)*(y*y))*(i*i)*i=3*(x*x)*j*(x-X*(i*i))-y:=by
 have e:i=j:=by grobner
 subst e
 have e4:(4*x*(y*y))*(3*(x*x))*(i*i)*i=3*(x*x)*i*x:=by grobner
 have e5:8*(y*y)*(y*y)*(i*i)*i=y:=by grobner
 have e6:X*(3*(x*x))*(i*i)*i=3*(x*x)*i*(X*(i*i)):=by grobner
 grobner
theorem dbl_z {y:Nat}:fz (aq y y)=2*fz y:=db2_fz y
theorem two_ne {a:Nat} (ha:a<qN) (h:fz a=2*fz 0):a=0:=nfz ha (by decide) (by rw[h,fz0];grobner)
theorem ne_two {y:Nat} (hy:y<qN) (h:y≠0):db2 y≠0:=by
 intro e
 obtain ⟨t,ht⟩:=two_fz
 have k:fz (db2 y)=fz 0:=by rw[e]
 rw[db2_fz]at k
 refine h (nfz hy (by decide) ?_)
 rw[fz0]at k ⊢
 generalize fz y=Y at *
 have e1:t*2*Y=Y:=by rw[ht];grobner
 have e2:t*(2*Y)=0:=by rw[k];grobner
 grobner
theorem dq_ne {a b:Nat} (ha:a<qN) (hb:b<qN) (h:a≠b):dq b a≠0:=by
 intro e
 have k:fz (dq b a)=fz 0:=by rw[e]
 rw[dq_fz ha]at k
 refine h (nfz ha hb ?_)
 rw[fz0]at k
 generalize fz a=A at *
 generalize fz b=B at *
 grobner
theorem adU1 {X:Nat} (h:X<qN):adU X 1=X:=by unfold adU;rw[mq11,mq_one h]
theorem adS1 {X:Nat} (h:X<qN):adS X 1 1=X:=by unfold adS;rw[mq11,mq_one h,mq_one h]
theorem jt_one {x y:Nat} (hx:x<qN) (hy:y<qN):jtX ⟨x,y,1⟩=x∧jtY ⟨x,y,1⟩=y:=by
 unfold jtX jtY
 simp only
 rw[if_neg (by decide),if_neg (by decide),inv01,mq11,mq_one hx,mq_one hy,mq_one hy]
 exact ⟨rfl,rfl⟩
theorem jt_zero {p:J3} (h:p.z=0):jtX p=0∧jtY p=0:=by
 unfold jtX jtY
 rw[if_pos h,if_pos h]
 exact ⟨rfl,rfl⟩
theorem chd_ne {X0 Y0 X1 Y1:Nat} (a:X0<qN) (b:Y0<qN) (c:X1<qN) (d:Y1<qN) (h:X0≠X1):
  jtX (chd ⟨X1,Y1,1⟩ ⟨X0,Y0,1⟩)=spX (slC X0 Y0 X1 Y1) X0 X1∧jtY (chd ⟨X1,Y1,1⟩ ⟨X0,Y0,1⟩)=spY (slC X0 Y0 X1 Y1) X0 Y0 X1:=by
 unfold chd jtX jtY
 simp only
 rw[adU1 a,adU1 c,adS1 b,adS1 d]
 have hz:fz (chZ X0 X1 1 1)=2*fz (dq X1 X0):=chd_z
 have hne:=dq_ne a c h
 have hH:chZ X0 X1 1 1≠0:=by
  intro e
  have k:fz (db2 (dq X1 X0))=fz 0:=by rw[db2_fz,←hz,e]
  exact ne_two (dq_lt _ _) hne (nfz (aq_lt _ _) (by decide) k)
 have hl:chZ X0 X1 1 1<qN:=mq_lt _ _
 have hi:=inv_fz hl hH
 have hj:=inv_fz (dq_lt X1 X0) hne
 rw[if_neg hH,if_neg hH]
 rw[hz,dq_fz a]at hi
 rw[dq_fz a]at hj
 have ex:fz (mq (chX X0 X1 Y0 Y1) (mq (inv0 (chZ X0 X1 1 1)) (inv0 (chZ X0 X1 1 1))))=fz (spX (slC X0 Y0 X1 Y1) X0 X1):=by
  unfold spX slC
  rw[dq_fz c,dq_fz a]
  simp only[mq_fz]
  rw[dq_fz b]
  exact ch_fin hi hj (chX_fz a b)
 refine ⟨nfz (mq_lt _ _) (spX_lt _ _ _) ex,nfz (mq_lt _ _) (spY_lt _ _ _ _) ?_⟩
 unfold spY
 rw[dq_fz b,mq_fz (slC X0 Y0 X1 Y1),dq_fz (spX_lt _ _ _),←ex]
 unfold slC
 simp only[mq_fz]
 rw[dq_fz b,chY_fz a b]
 exact ch_fin2 hi hj
theorem chd_eq {X Y0 Y1:Nat} (a:X<qN):(chd ⟨X,Y1,1⟩ ⟨X,Y0,1⟩).z=0:=by
 unfold chd
 simp only
 unfold chZ
 rw[dq_self (show adU X 1<qN from mq_lt _ _),mq_zero]
theorem dbl_tan {X Y:Nat} (a:X<qN) (b:Y<qN) (h:Y≠0):jtX (dbl ⟨X,Y,1⟩)=spX (slT X Y) X X∧jtY (dbl ⟨X,Y,1⟩)=spY (slT X Y) X Y X:=by
 unfold dbl jtX jtY
 simp only
 have hz:dbZ Y 1=db2 Y:=by unfold dbZ;rw[mq_one b]
 rw[hz,if_neg (ne_two b h),if_neg (ne_two b h)]
 have hi:=inv_fz (show db2 Y<qN from aq_lt _ _) (ne_two b h)
 have hj:fz (inv0 (aq Y Y))*(2*fz Y)=1:=by rw[←db2_fz];exact hi
 rw[db2_fz]at hi
 have ex:fz (mq (dbX X Y) (mq (inv0 (db2 Y)) (inv0 (db2 Y))))=fz (spX (slT X Y) X X):=by
  unfold spX slT
  rw[dq_fz a,dq_fz a]
  simp only[mq_fz,fz3]
  exact db_fin hi hj dbX_fz
 refine ⟨nfz (mq_lt _ _) (spX_lt _ _ _) ex,nfz (mq_lt _ _) (spY_lt _ _ _ _) ?_⟩
 unfold spY
 rw[dq_fz b,mq_fz (slT X Y),dq_fz (spX_lt _ _ _),←ex]
 unfold slT
 simp only[mq_fz,fz3]
 rw[dbY_fz]
 exact db_fin2 hi hj
theorem sum_eq {X0 Y0 X1 Y1:Nat} (a:X0<qN) (b:Y0<qN) (c:X1<qN) (d:Y1<qN):
  jtX (jad (jfr X1 Y1) (jfr X0 Y0))=adX X0 Y0 X1 Y1∧jtY (jad (jfr X1 Y1) (jfr X0 Y0))=adY X0 Y0 X1 Y1:=by
 have fin:∀ {X Y:Nat},¬(X=0∧Y=0)→jfr X Y=⟨X,Y,1⟩:=fun h=>by unfold jfr jf1 jfZ;rw[if_neg h,if_neg h,if_neg h]
 have inf:∀ {X Y:Nat},X=0∧Y=0→jfr X Y=⟨1,1,0⟩:=fun h=>by unfold jfr jf1 jfZ;rw[if_pos h,if_pos h,if_pos h]
 unfold adX adY
 by_cases h0:X0=0∧Y0=0
 ·rw[if_pos h0,if_pos h0,inf h0]
  by_cases h1:X1=0∧Y1=0
  ·rw[inf h1]
   unfold jad
   rw[if_pos rfl,h1.1,h1.2]
   exact jt_zero rfl
  ·rw[fin h1]
   unfold jad
   rw[if_neg (by simp only;decide),if_pos rfl]
   exact jt_one c d
 ·rw[if_neg h0,if_neg h0,fin h0]
  by_cases h1:X1=0∧Y1=0
  ·rw[if_pos h1,if_pos h1,inf h1]
   unfold jad
   rw[if_pos rfl]
   exact jt_one a b
  ·rw[if_neg h1,if_neg h1,fin h1]
   unfold jad
   rw[if_neg (by simp only;decide),if_neg (by simp only;decide)]
   simp only
   rw[adU1 a,adU1 c,adS1 b,adS1 d]
   by_cases hx:X0=X1
   ·subst hx
    have n0:¬(X0≠X0):=fun h=>h rfl
    rw[if_neg n0,if_neg n0]
    by_cases hy:Y0=Y1
    ·subst hy
     have p0:X0=X0∧Y0=Y0:=⟨rfl,rfl⟩
     rw[if_pos p0]
     by_cases hz:Y0=0
     ·have n1:¬(Y0=Y0∧Y0≠0):=fun h=>h.2 hz
      rw[if_neg n1,if_neg n1]
      refine jt_zero ?_
      unfold dbl dbZ
      simp only
      rw[mq_one b,hz]
      rfl
     ·have p1:Y0=Y0∧Y0≠0:=⟨rfl,hz⟩
      rw[if_pos p1,if_pos p1]
      exact dbl_tan a b hz
    ·have n1:¬(Y0=Y1∧Y0≠0):=fun h=>hy h.1
     have n2:¬(X0=X0∧Y0=Y1):=fun h=>hy h.2
     rw[if_neg n1,if_neg n1,if_neg n2]
     exact jt_zero (chd_eq a)
   ·have n2:¬(X0=X1∧Y0=Y1):=fun h=>hx h.1
    rw[if_neg n2,if_pos hx,if_pos hx]
    exact chd_ne a b c d hx
end Go.Sx
namespace Go.Sx
open Go Go.Proofs Go.Num
set_option maxRecDepth 100000
theorem vc_Db0 (z0 z1 z2 z3 a0 a1 a2 a3:Int) (K:SV→Mem→Prop):execF cxAdd u0 Tryz.f86 64 [.ptr 1 (.lit 0),.ptr 9 (.lit 0)] (memL [(1,⟨false,w4 z0 z1 z2 z3⟩),(9,⟨true,w4 a0 a1 a2 a3⟩)]) K=
 AddP a0 a1 a2 a3 a0 a1 a2 a3 fun y0 y1 y2 y3=>K (.ptr 1 (.lit 0)) (memL [(1,⟨false,w4 y0 y1 y2 y3⟩),(9,⟨true,w4 a0 a1 a2 a3⟩)]):=by kernel_rfl
theorem vc_Db1 (z0 z1 z2 z3:Int) (K:SV→Mem→Prop):execF cxAdd u0 Tryz.f86 64 [.ptr 1 (.lit 0),.ptr 1 (.lit 0)] (memL [(1,⟨false,w4 z0 z1 z2 z3⟩)]) K=
 AddP z0 z1 z2 z3 z0 z1 z2 z3 fun y0 y1 y2 y3=>K (.ptr 1 (.lit 0)) (memL [(1,⟨false,w4 y0 y1 y2 y3⟩)]):=by kernel_rfl
def gDb:G0:=fun args l K=>
 match args,l with
 | [.ptr 1 (.lit 0),.ptr 9 (.lit 0)],[(1,⟨false,.cells [.int .u64 (.sym z0),.int .u64 (.sym z1),.int .u64 (.sym z2),.int .u64 (.sym z3)]⟩),(9,⟨true,.cells [.int .u64 (.sym a0),.int .u64 (.sym a1),.int .u64 (.sym a2),.int .u64 (.sym a3)]⟩)]=>addC a0 a1 a2 a3 a0 a1 a2 a3 fun y0 y1 y2 y3=>K (.ptr 1 (.lit 0)) (memL [(1,⟨false,w4 y0 y1 y2 y3⟩),(9,⟨true,w4 a0 a1 a2 a3⟩)])
 | [.ptr 1 (.lit 0),.ptr 1 (.lit 0)],[(1,⟨false,.cells [.int .u64 (.sym z0),.int .u64 (.sym z1),.int .u64 (.sym z2),.int .u64 (.sym z3)]⟩)]=>addC z0 z1 z2 z3 z0 z1 z2 z3 fun y0 y1 y2 y3=>K (.ptr 1 (.lit 0)) (memL [(1,⟨false,w4 y0 y1 y2 y3⟩)])
 | _,_=>False
theorem Db_good:Good gDb:=by
 constructor
 ·intro args l K K' hk h
  unfold gDb at h ⊢
  split at h
  ·exact addC_mono (fun _ _ _ _=>hk _ _) h
  ·exact addC_mono (fun _ _ _ _=>hk _ _) h
  ·exact h.elim
 ·intro args l K h
  unfold gDb at h
  split at h
  ·obtain ⟨_,_,_,_,h⟩:=addC_live h
   exact ⟨_,_,h⟩
  ·obtain ⟨_,_,_,_,h⟩:=addC_live h
   exact ⟨_,_,h⟩
  ·exact h.elim
theorem Db_ok (args:List SV) (l:List (Nat×Reg)) (K:SV→Mem→Prop) (hK:KUp K) (h:gDb args l K):∃U,execF cxAdd U Tryz.f86 64 args (memL l) K:=by
 unfold gDb at h
 split at h
 ·rename_i z0 z1 z2 z3 a0 a1 a2 a3
  refine ⟨u0,?_⟩
  have:=vc_Db0 z0 z1 z2 z3 a0 a1 a2 a3 K
  unfold w4 at this
  rw[this]
  exact addC_of h
 ·rename_i z0 z1 z2 z3
  refine ⟨u0,?_⟩
  have:=vc_Db1 z0 z1 z2 z3 K
  unfold w4 at this
  rw[this]
  exact addC_of h
 ·exact h.elim
def kDb:Ef Tryz.prog:=mkE mixed 86 Tryz.func86 (by decide) (by kernel_rfl) [] [.ptr 4 false,.ptr 4 true] gDb Db_good Db_ok
@[reducible] def w8 (x0 x1 x2 x3 x4 x5 x6 x7 : Int) : Ct := .cells [.int .u64 (.sym x0), .int .u64 (.sym x1), .int .u64 (.sym x2), .int .u64 (.sym x3), .int .u64 (.sym x4), .int .u64 (.sym x5), .int .u64 (.sym x6), .int .u64 (.sym x7)]
def c8 (c:Ct) (K:Int→Int→Int→Int→Int→Int→Int→Int→Prop):Prop:=
 match c with
 | .cells [.int .u64 (.sym x0),.int .u64 (.sym x1),.int .u64 (.sym x2),.int .u64 (.sym x3),.int .u64 (.sym x4),.int .u64 (.sym x5),.int .u64 (.sym x6),.int .u64 (.sym x7)]=>K x0 x1 x2 x3 x4 x5 x6 x7
 | _=>False
theorem c8_mono {c:Ct} {K K':Int→Int→Int→Int→Int→Int→Int→Int→Prop} (hk:∀x0 x1 x2 x3 x4 x5 x6 x7,K x0 x1 x2 x3 x4 x5 x6 x7→K' x0 x1 x2 x3 x4 x5 x6 x7) (h:c8 c K):c8 c K':=by
 unfold c8 at h ⊢
 split at h
 ·exact hk _ _ _ _ _ _ _ _ h
 ·exact h.elim
theorem c8_ex {c:Ct} {K:Int→Int→Int→Int→Int→Int→Int→Int→Prop} (h:c8 c K):∃x0 x1 x2 x3 x4 x5 x6 x7,c=w8 x0 x1 x2 x3 x4 x5 x6 x7∧K x0 x1 x2 x3 x4 x5 x6 x7:=by
 unfold c8 at h
 split at h
 ·exact ⟨_,_,_,_,_,_,_,_,rfl,h⟩
 ·exact h.elim
@[reducible] def w12 (x0 x1 x2 x3 x4 x5 x6 x7 x8 x9 x10 x11 : Int) : Ct := .cells [.int .u64 (.sym x0), .int .u64 (.sym x1), .int .u64 (.sym x2), .int .u64 (.sym x3), .int .u64 (.sym x4), .int .u64 (.sym x5), .int .u64 (.sym x6), .int .u64 (.sym x7), .int .u64 (.sym x8), .int .u64 (.sym x9), .int .u64 (.sym x10), .int .u64 (.sym x11)]
def c12 (c:Ct) (K:Int→Int→Int→Int→Int→Int→Int→Int→Int→Int→Int→Int→Prop):Prop:=
 match c with
 | .cells [.int .u64 (.sym x0),.int .u64 (.sym x1),.int .u64 (.sym x2),.int .u64 (.sym x3),.int .u64 (.sym x4),.int .u64 (.sym x5),.int .u64 (.sym x6),.int .u64 (.sym x7),.int .u64 (.sym x8),.int .u64 (.sym x9),.int .u64 (.sym x10),.int .u64 (.sym x11)]=>K x0 x1 x2 x3 x4 x5 x6 x7 x8 x9 x10 x11
 | _=>False
theorem c12_mono {c:Ct} {K K':Int→Int→Int→Int→Int→Int→Int→Int→Int→Int→Int→Int→Prop} (hk:∀x0 x1 x2 x3 x4 x5 x6 x7 x8 x9 x10 x11,K x0 x1 x2 x3 x4 x5 x6 x7 x8 x9 x10 x11→K' x0 x1 x2 x3 x4 x5 x6 x7 x8 x9 x10 x11) (h:c12 c K):c12 c K':=by
 unfold c12 at h ⊢
 split at h
 ·exact hk _ _ _ _ _ _ _ _ _ _ _ _ h
 ·exact h.elim
theorem c12_ex {c:Ct} {K:Int→Int→Int→Int→Int→Int→Int→Int→Int→Int→Int→Int→Prop} (h:c12 c K):∃x0 x1 x2 x3 x4 x5 x6 x7 x8 x9 x10 x11,c=w12 x0 x1 x2 x3 x4 x5 x6 x7 x8 x9 x10 x11∧K x0 x1 x2 x3 x4 x5 x6 x7 x8 x9 x10 x11:=by
 unfold c12 at h
 split at h
 ·exact ⟨_,_,_,_,_,_,_,_,_,_,_,_,rfl,h⟩
 ·exact h.elim
structure Jp (j0 j1 j2 j3 j4 j5 j6 j7 j8 j9 j10 j11:Int) (p:J3):Prop where
 x:El j0 j1 j2 j3 (mont p.x)
 y:El j4 j5 j6 j7 (mont p.y)
 z:El j8 j9 j10 j11 (mont p.z)
 lx:p.x<qN
 ly:p.y<qN
 lz:p.z<qN
theorem Jp.ex {p:J3} (lx:p.x<qN) (ly:p.y<qN) (lz:p.z<qN):∃j0 j1 j2 j3 j4 j5 j6 j7 j8 j9 j10 j11,Jp j0 j1 j2 j3 j4 j5 j6 j7 j8 j9 j10 j11 p:=
 ⟨_,_,_,_,_,_,_,_,_,_,_,_,El.of (mont_lt _),El.of (mont_lt _),El.of (mont_lt _),lx,ly,lz⟩
theorem jf1_lt {X Y n:Nat} (h:n<qN):jf1 X Y n<qN:=by
 unfold jf1
 split
 ·decide
 ·exact h
theorem jfZ_lt (X Y:Nat):jfZ X Y<qN:=by
 unfold jfZ
 split<;>decide
theorem jad_lt {p q:J3} (a:p.x<qN∧p.y<qN∧p.z<qN) (b:q.x<qN∧q.y<qN∧q.z<qN):(jad p q).x<qN∧(jad p q).y<qN∧(jad p q).z<qN:=by
 unfold jad
 split
 ·exact b
 ·split
  ·exact a
  ·split
   ·exact ⟨dq_lt _ _,dq_lt _ _,aq_lt _ _⟩
   ·exact ⟨dq_lt _ _,dq_lt _ _,mq_lt _ _⟩
theorem jtX_lt (p:J3):jtX p<qN:=by
 unfold jtX
 split
 ·decide
 ·exact mq_lt _ _
theorem jtY_lt (p:J3):jtY p<qN:=by
 unfold jtY
 split
 ·decide
 ·exact mq_lt _ _
theorem mont_z {x:Nat} (h:x<qN):mont x=0↔x=0:=by
 constructor
 ·intro e
  have:=mont_back x
  rw[e,mmul_zero,Nat.mod_eq_of_lt h]at this
  exact this.symm
 ·rintro rfl
  exact mont_zero
theorem mont_q {x y:Nat} (h:x<qN) (h':y<qN):mont x=mont y↔x=y:=by
 constructor
 ·intro e
  have:=mont_inj e
  rwa [Nat.mod_eq_of_lt h,Nat.mod_eq_of_lt h']at this
 ·rintro rfl
  rfl
theorem mulC_q {X Y:Nat} {a0 a1 a2 a3 b0 b1 b2 b3:Int} {K:Int→Int→Int→Int→Prop} (ha:El a0 a1 a2 a3 (mont X)) (hb:El b0 b1 b2 b3 (mont Y)) (h:∀y0 y1 y2 y3,El y0 y1 y2 y3 (mont (mq X Y))→K y0 y1 y2 y3):mulC a0 a1 a2 a3 b0 b1 b2 b3 K:=mulC_m ha hb h
theorem addC_q {X Y:Nat} {a0 a1 a2 a3 b0 b1 b2 b3:Int} {K:Int→Int→Int→Int→Prop} (ha:El a0 a1 a2 a3 (mont X)) (hb:El b0 b1 b2 b3 (mont Y)) (h:∀y0 y1 y2 y3,El y0 y1 y2 y3 (mont (aq X Y))→K y0 y1 y2 y3):addC a0 a1 a2 a3 b0 b1 b2 b3 K:=addC_m ha hb h
theorem dblC_q {X:Nat} {a0 a1 a2 a3:Int} {K:Int→Int→Int→Int→Prop} (ha:El a0 a1 a2 a3 (mont X)) (h:∀y0 y1 y2 y3,El y0 y1 y2 y3 (mont (db2 X))→K y0 y1 y2 y3):addC a0 a1 a2 a3 a0 a1 a2 a3 K:=addC_m ha ha h
theorem subC_q {X Y:Nat} {a0 a1 a2 a3 b0 b1 b2 b3:Int} {K:Int→Int→Int→Int→Prop} (ha:El a0 a1 a2 a3 (mont X)) (hb:El b0 b1 b2 b3 (mont Y)) (hY:Y<qN) (h:∀y0 y1 y2 y3,El y0 y1 y2 y3 (mont (dq X Y))→K y0 y1 y2 y3):subC a0 a1 a2 a3 b0 b1 b2 b3 K:=subC_m ha hb hY h
def cxDa:Cx Tryz.prog:= { rds:= [],efs:= [kSqr,kAddA,kSubA,kDb,kMulA],eqs:= [] }
def DaC (p0 p1 p2 p3 p4 p5 p6 p7 p8 p9 p10 p11:Int) (K:SV→Mem→Prop):Prop:=
 mulC p0 p1 p2 p3 p0 p1 p2 p3 fun a0 b0 c0 d0=>
 mulC p4 p5 p6 p7 p4 p5 p6 p7 fun a1 b1 c1 d1=>
 mulC a1 b1 c1 d1 a1 b1 c1 d1 fun a2 b2 c2 d2=>
 addC p0 p1 p2 p3 a1 b1 c1 d1 fun a3 b3 c3 d3=>
 mulC a3 b3 c3 d3 a3 b3 c3 d3 fun a4 b4 c4 d4=>
 subC a4 b4 c4 d4 a0 b0 c0 d0 fun a5 b5 c5 d5=>
 subC a5 b5 c5 d5 a2 b2 c2 d2 fun a6 b6 c6 d6=>
 addC a6 b6 c6 d6 a6 b6 c6 d6 fun a7 b7 c7 d7=>
 addC a0 b0 c0 d0 a0 b0 c0 d0 fun a8 b8 c8 d8=>
 addC a8 b8 c8 d8 a0 b0 c0 d0 fun a9 b9 c9 d9=>
 mulC a9 b9 c9 d9 a9 b9 c9 d9 fun a10 b10 c10 d10=>
 addC a7 b7 c7 d7 a7 b7 c7 d7 fun a11 b11 c11 d11=>
 mulC p4 p5 p6 p7 p8 p9 p10 p11 fun a12 b12 c12 d12=>
 addC a12 b12 c12 d12 a12 b12 c12 d12 fun a13 b13 c13 d13=>
 subC a10 b10 c10 d10 a11 b11 c11 d11 fun a14 b14 c14 d14=>
 subC a7 b7 c7 d7 a14 b14 c14 d14 fun a15 b15 c15 d15=>
 mulC a15 b15 c15 d15 a9 b9 c9 d9 fun a16 b16 c16 d16=>
 addC a2 b2 c2 d2 a2 b2 c2 d2 fun a17 b17 c17 d17=>
 addC a17 b17 c17 d17 a17 b17 c17 d17 fun a18 b18 c18 d18=>
 addC a18 b18 c18 d18 a18 b18 c18 d18 fun a19 b19 c19 d19=>
 subC a16 b16 c16 d16 a19 b19 c19 d19 fun a20 b20 c20 d20=>
 K (.ptr 1 (.lit 0)) (memL [(1,⟨false,w12 a14 b14 c14 d14 a20 b20 c20 d20 a13 b13 c13 d13⟩),(521,⟨false,w4 a0 b0 c0 d0⟩),(529,⟨false,w4 a1 b1 c1 d1⟩),(537,⟨false,w4 a2 b2 c2 d2⟩),(545,⟨false,w4 a7 b7 c7 d7⟩),(553,⟨false,w4 a9 b9 c9 d9⟩),(561,⟨false,w4 a10 b10 c10 d10⟩),(569,⟨false,w4 a19 b19 c19 d19⟩)])
theorem vc_da (p0 p1 p2 p3 p4 p5 p6 p7 p8 p9 p10 p11:Int) (K:SV→Mem→Prop):execF cxDa u9 Tryz.f106 64 [.ptr 1 (.lit 0)] (memL [(1,⟨false,w12 p0 p1 p2 p3 p4 p5 p6 p7 p8 p9 p10 p11⟩)]) K=DaC p0 p1 p2 p3 p4 p5 p6 p7 p8 p9 p10 p11 K:=by kernel_rfl
theorem da_walk {p0 p1 p2 p3 p4 p5 p6 p7 p8 p9 p10 p11:Int} {p:J3} {K:SV→Mem→Prop} (hup:KUp K) (hp:Jp p0 p1 p2 p3 p4 p5 p6 p7 p8 p9 p10 p11 p) (hK:∀j0 j1 j2 j3 j4 j5 j6 j7 j8 j9 j10 j11,Jp j0 j1 j2 j3 j4 j5 j6 j7 j8 j9 j10 j11 (dbl p)→K (.ptr 1 (.lit 0)) (memL [(1,⟨false,w12 j0 j1 j2 j3 j4 j5 j6 j7 j8 j9 j10 j11⟩)])):DaC p0 p1 p2 p3 p4 p5 p6 p7 p8 p9 p10 p11 K:=by
 unfold DaC
 refine mulC_q hp.x hp.x ?_
 intro a0 b0 c0 d0 h0
 refine mulC_q hp.y hp.y ?_
 intro a1 b1 c1 d1 h1
 refine mulC_q h1 h1 ?_
 intro a2 b2 c2 d2 h2
 refine addC_q hp.x h1 ?_
 intro a3 b3 c3 d3 h3
 refine mulC_q h3 h3 ?_
 intro a4 b4 c4 d4 h4
 refine subC_q h4 h0 (mq_lt _ _) ?_
 intro a5 b5 c5 d5 h5
 refine subC_q h5 h2 (mq_lt _ _) ?_
 intro a6 b6 c6 d6 h6
 refine dblC_q h6 ?_
 intro a7 b7 c7 d7 h7
 refine dblC_q h0 ?_
 intro a8 b8 c8 d8 h8
 refine addC_q h8 h0 ?_
 intro a9 b9 c9 d9 h9
 refine mulC_q h9 h9 ?_
 intro a10 b10 c10 d10 h10
 refine dblC_q h7 ?_
 intro a11 b11 c11 d11 h11
 refine mulC_q hp.y hp.z ?_
 intro a12 b12 c12 d12 h12
 refine dblC_q h12 ?_
 intro a13 b13 c13 d13 h13
 refine subC_q h10 h11 (db2_lt _) ?_
 intro a14 b14 c14 d14 h14
 refine subC_q h7 h14 (dq_lt _ _) ?_
 intro a15 b15 c15 d15 h15
 refine mulC_q h15 h9 ?_
 intro a16 b16 c16 d16 h16
 refine dblC_q h2 ?_
 intro a17 b17 c17 d17 h17
 refine dblC_q h17 ?_
 intro a18 b18 c18 d18 h18
 refine dblC_q h18 ?_
 intro a19 b19 c19 d19 h19
 refine subC_q h16 h19 (db2_lt _) ?_
 intro a20 b20 c20 d20 h20
 refine hup.le (memL_sub [1,521,529,537,545,553,561,569] rfl (by decide) (by
  intro x hx
  simp only[List.mem_cons,List.not_mem_nil,or_false]at hx ⊢
  simp[hx])) (hK _ _ _ _ _ _ _ _ _ _ _ _ ⟨h14,h20,h13,dbX_lt _ _,dq_lt _ _,db2_lt _⟩)
def gDa:G0:=fun args l K=>
 match args,l with
 | [.ptr 1 (.lit 0)],[(1,⟨false,z⟩)]=>c12 z fun p0 p1 p2 p3 p4 p5 p6 p7 p8 p9 p10 p11=>∃p,Jp p0 p1 p2 p3 p4 p5 p6 p7 p8 p9 p10 p11 p∧∀j0 j1 j2 j3 j4 j5 j6 j7 j8 j9 j10 j11,Jp j0 j1 j2 j3 j4 j5 j6 j7 j8 j9 j10 j11 (dbl p)→K (.ptr 1 (.lit 0)) (memL [(1,⟨false,w12 j0 j1 j2 j3 j4 j5 j6 j7 j8 j9 j10 j11⟩)])
 | _,_=>False
theorem dbl_ex (p:J3):∃j0 j1 j2 j3 j4 j5 j6 j7 j8 j9 j10 j11,Jp j0 j1 j2 j3 j4 j5 j6 j7 j8 j9 j10 j11 (dbl p):=Jp.ex (dbX_lt _ _) (dq_lt _ _) (db2_lt _)
theorem da_good:Good gDa:=by
 constructor
 ·intro args l K K' hk h
  unfold gDa at h ⊢
  split at h
  ·exact c12_mono (fun _ _ _ _ _ _ _ _ _ _ _ _ h=>h.elim fun p h=>⟨p,h.1,fun j0 j1 j2 j3 j4 j5 j6 j7 j8 j9 j10 j11 hj=>hk _ _ (h.2 j0 j1 j2 j3 j4 j5 j6 j7 j8 j9 j10 j11 hj)⟩) h
  ·exact h.elim
 ·intro args l K h
  unfold gDa at h
  split at h
  ·obtain ⟨_,_,_,_,_,_,_,_,_,_,_,_,_,h⟩:=c12_ex h
   obtain ⟨p,_,h⟩:=h
   obtain ⟨j0,j1,j2,j3,j4,j5,j6,j7,j8,j9,j10,j11,e⟩:=dbl_ex p
   exact ⟨_,_,h _ _ _ _ _ _ _ _ _ _ _ _ e⟩
  ·exact h.elim
theorem da_ok (args:List SV) (l:List (Nat×Reg)) (K:SV→Mem→Prop) (hup:KUp K) (h:gDa args l K):∃U,execF cxDa U Tryz.f106 64 args (memL l) K:=by
 unfold gDa at h
 split at h
 ·obtain ⟨p0,p1,p2,p3,p4,p5,p6,p7,p8,p9,p10,p11,rfl,p,hp,hK⟩:=c12_ex h
  exact ⟨u9,(vc_da p0 p1 p2 p3 p4 p5 p6 p7 p8 p9 p10 p11 K).mpr (da_walk hup hp hK)⟩
 ·exact h.elim
def kDa:Ef Tryz.prog:=mkE mixed 106 Tryz.func106 (by decide) (by kernel_rfl) [] [.ptr 12 false] gDa da_good da_ok
end Go.Sx
namespace Go.Sx
open Go Go.Num
structure F2 where
 a:Nat
 b:Nat
theorem F2.eq {x y:F2} (h:x.a=y.a) (k:x.b=y.b):x=y:=by
 cases x;cases y
 simp only at h k
 rw[h,k]
def F2.ok (x:F2):Prop:=x.a<qN∧x.b<qN
def emul (x y:F2):F2:=⟨dq (mq x.a y.a) (mq x.b y.b),aq (mq x.a y.b) (mq x.b y.a)⟩
def eadd (x y:F2):F2:=⟨aq x.a y.a,aq x.b y.b⟩
def esub (x y:F2):F2:=⟨dq x.a y.a,dq x.b y.b⟩
def eneg (x:F2):F2:=⟨dq 0 x.a,dq 0 x.b⟩
def enorm (x:F2):Nat:=aq (mq x.a x.a) (mq x.b x.b)
def einv (x:F2):F2:=⟨mq x.a (inv0 (enorm x)),dq 0 (mq x.b (inv0 (enorm x)))⟩
theorem emul_ok (x y:F2):(emul x y).ok:=⟨dq_lt _ _,aq_lt _ _⟩
theorem eadd_ok (x y:F2):(eadd x y).ok:=⟨aq_lt _ _,aq_lt _ _⟩
theorem esub_ok (x y:F2):(esub x y).ok:=⟨dq_lt _ _,dq_lt _ _⟩
theorem eneg_ok (x:F2):(eneg x).ok:=⟨dq_lt _ _,dq_lt _ _⟩
theorem einv_ok (x:F2):(einv x).ok:=⟨mq_lt _ _,dq_lt _ _⟩
theorem enorm_lt (x:F2):enorm x<qN:=aq_lt _ _
theorem emul_a (x y:F2):fz (emul x y).a=fz x.a*fz y.a-fz x.b*fz y.b:=by
 unfold emul
 simp only
 rw[dq_fz (mq_lt _ _),mq_fz,mq_fz]
theorem emul_b (x y:F2):fz (emul x y).b=fz x.a*fz y.b+fz x.b*fz y.a:=by
 unfold emul
 simp only
 rw[aq_fz,mq_fz,mq_fz]
theorem eadd_a (x y:F2):fz (eadd x y).a=fz x.a+fz y.a:=aq_fz _ _
theorem eadd_b (x y:F2):fz (eadd x y).b=fz x.b+fz y.b:=aq_fz _ _
theorem esub_a {x y:F2} (h:y.ok):fz (esub x y).a=fz x.a-fz y.a:=dq_fz h.1
theorem esub_b {x y:F2} (h:y.ok):fz (esub x y).b=fz x.b-fz y.b:=dq_fz h.2
theorem eneg_a {x:F2} (h:x.ok):fz (eneg x).a= - fz x.a:=by
 unfold eneg
 simp only
 rw[dq_fz h.1,fz0]
 generalize fz x.a=A
 grobner
theorem eneg_b {x:F2} (h:x.ok):fz (eneg x).b= - fz x.b:=by
 unfold eneg
 simp only
 rw[dq_fz h.2,fz0]
 generalize fz x.b=A
 grobner
theorem enorm_fz (x:F2):fz (enorm x)=fz x.a*fz x.a+fz x.b*fz x.b:=by
 unfold enorm
 rw[aq_fz,mq_fz,mq_fz]
theorem eext {x y:F2} (hx:x.ok) (hy:y.ok) (h:fz x.a=fz y.a) (k:fz x.b=fz y.b):x=y:=by
 have e:=nfz hx.1 hy.1 h
 have f:=nfz hx.2 hy.2 k
 cases x;cases y
 simp only at e f
 rw[e,f]
theorem enorm_mul (x y:F2):fz (enorm (emul x y))=fz (enorm x)*fz (enorm y):=by
 rw[enorm_fz,enorm_fz,enorm_fz,emul_a,emul_b]
 generalize fz x.a=A
 generalize fz x.b=B
 generalize fz y.a=C
 generalize fz y.b=D
 grobner
theorem fz_zero {a:Nat} (h:a<qN):fz a=0↔a=0:=⟨fun e=>nfz h (by decide) (by rw[e];rfl),fun e=>by rw[e];rfl⟩
theorem fz_dom {a b:Nat} (ha:a<qN) (hb:b<qN) (h:fz a*fz b=0):a=0∨b=0:=by
 by_cases h0:a=0
 ·exact .inl h0
 ·right
  have hi:=inv_fz ha h0
  refine (fz_zero hb).1 ?_
  have e:fz (inv0 a)*(fz a*fz b)=fz b:=by
   have e1:fz (inv0 a)*fz a*fz b=fz b:=by rw[hi];grobner
   rw[←e1];grobner
  rw[←e,h]
  grobner
theorem J_m1:J ((qN-1:Nat):Int) qN= -1:=by
 have:=J_minus (n:=qN) (a:=1) qN_odd (by rw[show (1:Int).natAbs=1 from rfl];exact Nat.coprime_one_right _)
 rw[J_one qN_odd]at this
 have p:=J_period (a:= -1) (n:=qN) 1
 rw[←p]at this
 rw[show ((qN-1:Nat):Int)= -1+(qN:Int)*1 by decide,this]
 decide
theorem sum_sq {a b:Nat} (ha:a<qN) (hb:b<qN) (h:fz a*fz a+fz b*fz b=0):a=0∧b=0:=by
 by_cases hb0:b=0
 ·subst hb0
  refine ⟨?_,rfl⟩
  have:fz a*fz a=0:=by rw[fz0]at h;rw[←h];grobner
  rcases fz_dom ha ha this with e | e<;>exact e
 ·exfalso
  by_cases ha0:a=0
  ·subst ha0
   have:fz b*fz b=0:=by rw[fz0]at h;rw[←h];grobner
   rcases fz_dom hb hb this with e | e<;>exact hb0 e
  ·have na:a%qN≠0:=by rw[Nat.mod_eq_of_lt ha];exact ha0
   have nb:b%qN≠0:=by rw[Nat.mod_eq_of_lt hb];exact hb0
   have e:a*a%qN=(qN-1)*(b*b)%qN:=by
    rw[←fz_eq,fz_mul,fz_mul,fz_mul]
    have q1:fz (qN-1)+1=0:=by
     show fz (qN-1)+fz 1=fz 0
     rw[←fz_add,fz_eq]
     decide
    generalize fz (qN-1)=m at *
    generalize fz a=A at *
    generalize fz b=B at *
    grobner
   have n1:(qN-1)%qN≠0:=by decide
   have l:J ((a*a:Nat):Int) qN=1:=by rw[J_mulN na na,J_self na]
   have r:J (((qN-1)*(b*b):Nat):Int) qN= -1:=by
    rw[J_mulN n1 (mul_ne nb nb),J_mulN nb nb,J_self nb]
    rw[J_m1]
    rfl
   rw[←J_mod,e,J_mod,r]at l
   exact absurd l (by decide)
theorem enorm_zero {x:F2} (h:x.ok) (k:enorm x=0):x.a=0∧x.b=0:=by
 refine sum_sq h.1 h.2 ?_
 rw[←enorm_fz,k]
 rfl
theorem enorm_ne {x:F2} (h:x.ok) (k:¬(x.a=0∧x.b=0)):enorm x≠0:=fun e=>k (enorm_zero h e)
theorem einv_mul {x:F2} (h:x.ok) (k:¬(x.a=0∧x.b=0)):emul (einv x) x=⟨1,0⟩:=by
 have hn:=inv_fz (enorm_lt x) (enorm_ne h k)
 rw[enorm_fz]at hn
 refine eext (emul_ok _ _) ⟨by decide,by decide⟩ ?_ ?_
 ·rw[emul_a]
  show fz (mq _ _)*_-fz (dq 0 (mq _ _))*_=fz 1
  rw[mq_fz,dq_fz (mq_lt _ _),mq_fz,fz0,fz1,←hn]
  generalize fz x.a=A
  generalize fz x.b=B
  generalize fz (inv0 (enorm x))=I
  grobner
 ·rw[emul_b]
  show fz (mq _ _)*_+fz (dq 0 (mq _ _))*_=fz 0
  rw[mq_fz,dq_fz (mq_lt _ _),mq_fz,fz0]
  generalize fz x.a=A
  generalize fz x.b=B
  generalize fz (inv0 (enorm x))=I
  grobner
theorem einv_zero:einv ⟨0,0⟩=⟨0,0⟩:=by
 unfold einv
 have:enorm ⟨0,0⟩=0:=by decide
 rw[this,inv0_zero]
 exact F2.eq (by decide) (by decide)
theorem emul_dom {x y:F2} (hx:x.ok) (hy:y.ok) (h:emul x y=⟨0,0⟩):(x.a=0∧x.b=0)∨(y.a=0∧y.b=0):=by
 have k:=enorm_mul x y
 rw[h,show enorm ⟨0,0⟩=0 by decide,fz0]at k
 rcases fz_dom (enorm_lt x) (enorm_lt y) k.symm with e | e
 ·exact .inl (enorm_zero hx e)
 ·exact .inr (enorm_zero hy e)
theorem two_roots {x y:F2} (hx:x.ok) (hy:y.ok) (h:emul x x=emul y y):x=y∨x=eneg y:=by
 have d:=emul_dom (esub_ok x y) (eadd_ok x y) (by
  have ha:=congrArg (fun z=>fz z.a) h
  have hb:=congrArg (fun z=>fz z.b) h
  change fz _=fz _ at ha
  change fz _=fz _ at hb
  rw[emul_a,emul_a]at ha
  rw[emul_b,emul_b]at hb
  refine eext (emul_ok _ _) ⟨by decide,by decide⟩ ?_ ?_
  ·rw[emul_a,esub_a hy,esub_b hy,eadd_a,eadd_b]
   show _=fz 0
   rw[fz0]
   generalize fz x.a=A at *
   generalize fz x.b=B at *
   generalize fz y.a=C at *
   generalize fz y.b=D at *
   grobner
  ·rw[emul_b,esub_a hy,esub_b hy,eadd_a,eadd_b]
   show _=fz 0
   rw[fz0]
   generalize fz x.a=A at *
   generalize fz x.b=B at *
   generalize fz y.a=C at *
   generalize fz y.b=D at *
   grobner)
 rcases d with ⟨e,f⟩ | ⟨e,f⟩
 ·left
  have e:=(fz_zero (esub_ok x y).1).2 e
  have f:=(fz_zero (esub_ok x y).2).2 f
  rw[esub_a hy]at e
  rw[esub_b hy]at f
  refine eext hx hy ?_ ?_
  ·generalize fz x.a=A at *
   generalize fz y.a=C at *
   grobner
  ·generalize fz x.b=A at *
   generalize fz y.b=C at *
   grobner
 ·right
  have e:=(fz_zero (eadd_ok x y).1).2 e
  have f:=(fz_zero (eadd_ok x y).2).2 f
  rw[eadd_a]at e
  rw[eadd_b]at f
  refine eext hx (eneg_ok y) ?_ ?_
  ·rw[eneg_a hy]
   generalize fz x.a=A at *
   generalize fz y.a=C at *
   grobner
  ·rw[eneg_b hy]
   generalize fz x.b=A at *
   generalize fz y.b=C at *
   grobner
def esg (x:F2):Nat:=if x.a=0 then x.b%2 else x.a%2
theorem neg_par {a:Nat} (h:a<qN) (h0:a≠0):dq 0 a%2≠a%2:=by
 unfold dq
 rw[Nat.zero_add,Nat.mod_eq_of_lt (show qN-a<qN by omega)]
 have:=qN_odd
 omega
theorem neg_z {a:Nat} (h:a<qN):dq 0 a=0↔a=0:=by
 unfold dq
 constructor
 ·intro e
  apply Classical.byContradiction
  intro h0
  rw[Nat.zero_add,Nat.mod_eq_of_lt (show qN-a<qN by omega)]at e
  omega
 ·rintro rfl
  decide
theorem eneg_eneg {x:F2} (h:x.ok):eneg (eneg x)=x:=by
 refine eext (eneg_ok _) h ?_ ?_
 ·rw[eneg_a (eneg_ok _),eneg_a h]
  grobner
 ·rw[eneg_b (eneg_ok _),eneg_b h]
  grobner
theorem eneg_z {x:F2} (h:x.ok) (k:x.a=0∧x.b=0):eneg x=x:=by
 cases x
 simp only at k
 obtain ⟨rfl,rfl⟩:=k
 exact F2.eq (by decide) (by decide)
theorem esg_lt (x:F2):esg x<2:=by
 unfold esg
 split<;>omega
theorem esg_neg {x:F2} (h:x.ok) (k:¬(x.a=0∧x.b=0)):esg (eneg x)≠esg x:=by
 unfold esg eneg
 simp only
 by_cases ha:x.a=0
 ·rw[if_pos ((neg_z h.1).2 ha),if_pos ha]
  exact neg_par h.2 fun e=>k ⟨ha,e⟩
 ·rw[if_neg fun e=>ha ((neg_z h.1).1 e),if_neg ha]
  exact neg_par h.1 ha
def eadj (s:Nat) (x:F2):F2:=if esg x=s then x else eneg x
theorem eadj_same {x y:F2} {s:Nat} (hs:s<2) (hx:x.ok) (hy:y.ok) (h:emul x x=emul y y):eadj s x=eadj s y:=by
 rcases two_roots hx hy h with e | e
 ·rw[e]
 ·by_cases k:y.a=0∧y.b=0
  ·rw[e,eneg_z hy k]
  ·have n:=esg_neg hy k
   have l1:=esg_lt y
   have l2:=esg_lt (eneg y)
   unfold eadj
   rw[e]
   by_cases c:esg y=s
   ·rw[if_pos c,if_neg (by omega),eneg_eneg hy]
   ·rw[if_neg c,if_pos (by omega)]
theorem q_pos:0<qN:=by decide
theorem sq_fz {a:Nat} (h:sqN a=true):fz (rtN a)*fz (rtN a)=fz a:=by
 unfold sqN at h
 rw[decide_eq_true_eq]at h
 rw[←fz_mul,←fz_mod,h]
theorem sq_neg {a:Nat} (h:a<qN) (k:sqN a≠true):sqN (dq 0 a)=true:=by
 have k:=fun e=>k ((sqN_iff h).2 e)
 have k:lgN a= -1:=Classical.byContradiction k
 obtain ⟨n,j⟩:=lg_ne h k
 rw[Nat.mod_eq_of_lt h]at n
 rw[sqN_iff (dq_lt _ _)]
 unfold lgN
 rw[if_neg fun e=>n ((neg_z h).1 e)]
 unfold dq
 rw[Nat.zero_add,J_mod]
 have m:=J_minus (n:=qN) (a:=(a:Int)) qN_odd (J_ne (by rw[Nat.mod_eq_of_lt h];exact n))
 rw[j,←J_period (a:= -(a:Int)) (n:=qN) 1]at m
 rw[show ((qN-a:Nat):Int)= -(a:Int)+(qN:Int)*1 by omega,m]
 decide
theorem sq_one {a:Nat} (ha:a<qN):sqN (aq (mq a a) (mq 0 0))=true:=by
 rw[sqN_iff (aq_lt _ _)]
 have e:aq (mq a a) (mq 0 0)=a*a%qN:=by
  unfold aq mq
  rw[Nat.zero_mul,Nat.zero_mod,Nat.add_zero,Nat.mod_mod]
 rw[e]
 by_cases h0:a=0
 ·subst h0
  decide
 ·have n:a%qN≠0:=by rw[Nat.mod_eq_of_lt ha];exact h0
  unfold lgN
  rw[if_neg (mul_ne n n),J_mod,J_mulN n n,J_self n]
  decide
def e3N:Nat:=5472060717959818805561601436314318772174077789324455915672259473661306552145
def pmN (a:Nat):Nat:=pw qN 256 a e3N
theorem pmN_eq (a:Nat):pmN a=a ^ e3N%qN:=pw_eq (by decide)
theorem pmN_lt (a:Nat):pmN a<qN:=by rw[pmN_eq];exact Nat.mod_lt _ (by decide)
theorem pm_gen {a k h:Nat} (e:k+k+1=h):a ^ k%qN*(a ^ k%qN)%qN*a%qN=a ^ h%qN:=by
 rw[←Nat.mul_mod,←Nat.pow_add,Nat.mod_mul_mod,←Nat.pow_succ,←e]
theorem pm_sq {t:Nat} (h:t<qN) (h0:t≠0):(sqN t=true∧fz (pmN t)*fz (pmN t)*fz t=1)∨(sqN t≠true∧fz (pmN t)*fz (pmN t)*fz t= -1):=by
 have n:t%qN≠0:=by rw[Nat.mod_eq_of_lt h];exact h0
 have e:pmN t*pmN t%qN*t%qN=ppN t:=by
  rw[pmN_eq]
  exact pm_gen (by decide)
 have e:=congrArg fz e
 rw[fz_mod,fz_mul,fz_mod,fz_mul]at e
 have lg:lgN t=J t qN:=by unfold lgN;rw[if_neg h0]
 rcases eulerN n with ⟨j,p⟩ | ⟨j,p⟩
 ·left
  rw[p,fz1]at e
  exact ⟨(sqN_iff h).2 (by rw[lg,j];decide),e⟩
 ·right
  have q1:fz (qN-1)+1=0:=by
   show fz (qN-1)+fz 1=fz 0
   rw[←fz_add,fz_eq]
   decide
  rw[p]at e
  refine ⟨fun c=>(sqN_iff h).1 c (by rw[lg,j]),?_⟩
  rw[e]
  generalize fz (qN-1)=m at *
  grobner
def sqX (x:F2):Nat:=aq x.a (rtN (enorm x))
def sqS (x:F2):Nat:=pmN (db2 (sqX x))
def sqE (x:F2):F2:=
 if x.b=0 then (if sqN x.a=true then ⟨rtN x.a,0⟩else ⟨0,rtN (dq 0 x.a)⟩)
 else if mq (db2 (mq (sqX x) (sqS x))) (db2 (mq (sqX x) (sqS x)))=db2 (sqX x)then ⟨mq (sqX x) (sqS x),mq x.b (sqS x)⟩else ⟨mq x.b (sqS x),dq 0 (mq (sqX x) (sqS x))⟩
theorem sqE_ok (x:F2):(sqE x).ok:=by
 unfold sqE
 split
 ·split
  ·exact ⟨rtN_lt _,q_pos⟩
  ·exact ⟨q_pos,rtN_lt _⟩
 ·split
  ·exact ⟨mq_lt _ _,mq_lt _ _⟩
  ·exact ⟨mq_lt _ _,dq_lt _ _⟩
theorem zz1 {r z:Fin qN} (h:z=0):r*z+z*r=z:=by grobner
theorem zz2 {r z:Fin qN} (h:z=0):z*r+r*z=z:=by grobner
theorem flat_sq {x:F2} (h:x.ok) (hb:x.b=0):(if sqN x.a=true then (⟨rtN x.a,0⟩:F2)else ⟨0,rtN (dq 0 x.a)⟩).ok∧emul (if sqN x.a=true then (⟨rtN x.a,0⟩:F2)else ⟨0,rtN (dq 0 x.a)⟩) (if sqN x.a=true then (⟨rtN x.a,0⟩:F2)else ⟨0,rtN (dq 0 x.a)⟩)=x:=by
 by_cases s:sqN x.a=true
 ·rw[if_pos s]
  refine ⟨⟨rtN_lt _,q_pos⟩,eext (emul_ok _ _) h ?_ ?_⟩
  ·rw[emul_a]
   simp only
   rw[sq_fz s,fz0]
   grobner
  ·rw[emul_b,hb]
   show fz _*fz 0+fz 0*fz _=fz 0
   exact zz1 fz0
 ·rw[if_neg s]
  refine ⟨⟨q_pos,rtN_lt _⟩,eext (emul_ok _ _) h ?_ ?_⟩
  ·rw[emul_a]
   simp only
   rw[sq_fz (sq_neg h.1 s),dq_fz h.1,fz0]
   grobner
  ·rw[emul_b,hb]
   show fz 0*fz _+fz _*fz 0=fz 0
   exact zz2 fz0
theorem root_1 {A B D S:Fin qN} (hD:D*D=A*A+B*B) (hS:S*S*(2*(A+D))=1):(A+D)*S*((A+D)*S)-B*S*(B*S)=A∧(A+D)*S*(B*S)+B*S*((A+D)*S)=B:=by
 have e1:(A+D)*S*((A+D)*S)-B*S*(B*S)=S*S*(2*(A+D))*A:=by grobner
 have e2:(A+D)*S*(B*S)+B*S*((A+D)*S)=S*S*(2*(A+D))*B:=by grobner
 rw[e1,e2,hS]
 constructor<;>grobner
theorem root_2 {A B D S:Fin qN} (hD:D*D=A*A+B*B) (hS:S*S*(2*(A+D))= -1):B*S*(B*S)-(0-(A+D)*S)*(0-(A+D)*S)=A∧B*S*(0-(A+D)*S)+(0-(A+D)*S)*(B*S)=B:=by
 have e1:B*S*(B*S)-(0-(A+D)*S)*(0-(A+D)*S)= - (S*S*(2*(A+D)))*A:=by grobner
 have e2:B*S*(0-(A+D)*S)+(0-(A+D)*S)*(B*S)= - (S*S*(2*(A+D)))*B:=by grobner
 rw[e1,e2,hS]
 constructor<;>grobner
theorem sqX_ne {x:F2} (h:x.ok) (hb:x.b≠0) (hs:sqN (enorm x)=true):sqX x≠0:=by
 intro e
 have k:fz (sqX x)=0:=(fz_zero (aq_lt _ _)).2 e
 unfold sqX at k
 rw[aq_fz]at k
 have d:=sq_fz hs
 rw[enorm_fz]at d
 have b0:fz x.b*fz x.b=0:=by
  generalize fz x.a=A at *
  generalize fz x.b=B at *
  generalize fz (rtN (enorm x))=D at *
  grobner
 rcases fz_dom h.2 h.2 b0 with c | c<;>exact hb c
theorem sqE_sq {x:F2} (h:x.ok) (hs:sqN (enorm x)=true):emul (sqE x) (sqE x)=x:=by
 unfold sqE
 by_cases hb:x.b=0
 ·rw[if_pos hb]
  exact (flat_sq h hb).2
 ·rw[if_neg hb]
  have hX:=sqX_ne h hb hs
  have hlX:sqX x<qN:=aq_lt _ _
  have ht:=ne_two hlX hX
  have d:=sq_fz hs
  rw[enorm_fz]at d
  have fX:fz (sqX x)=fz x.a+fz (rtN (enorm x)):=aq_fz _ _
  rcases pm_sq (db2_lt _) ht with ⟨_,p⟩ | ⟨_,p⟩
  ·have c:mq (db2 (mq (sqX x) (sqS x))) (db2 (mq (sqX x) (sqS x)))=db2 (sqX x):=by
    refine nfz (mq_lt _ _) (db2_lt _) ?_
    unfold sqS
    rw[mq_fz,db2_fz (mq _ _),mq_fz]
    rw[db2_fz]at p ⊢
    generalize fz (sqX x)=X at *
    generalize fz (pmN (db2 (sqX x)))=S at *
    have:2*(X*S)*(2*(X*S))=S*S*(2*X)*(2*X):=by grobner
    rw[this,p]
    grobner
   rw[if_pos c]
   rw[db2_fz,fX]at p
   obtain ⟨r1,r2⟩:=root_1 d p
   refine eext (emul_ok _ _) h ?_ ?_
   ·rw[emul_a]
    simp only
    rw[mq_fz,mq_fz,fX]
    exact r1
   ·rw[emul_b]
    simp only
    rw[mq_fz,mq_fz,fX]
    exact r2
  ·have c:¬mq (db2 (mq (sqX x) (sqS x))) (db2 (mq (sqX x) (sqS x)))=db2 (sqX x):=by
    intro c
    have c:=congrArg fz c
    unfold sqS at c
    rw[mq_fz,db2_fz (mq _ _),mq_fz]at c
    refine ne_two (db2_lt (sqX x)) ht ((fz_zero (db2_lt _)).1 ?_)
    rw[db2_fz]
    rw[db2_fz]at p c ⊢
    generalize fz (sqX x)=X at *
    generalize fz (pmN (db2 (sqX x)))=S at *
    have:2*(X*S)*(2*(X*S))=S*S*(2*X)*(2*X):=by grobner
    rw[this,p]at c
    grobner
   rw[if_neg c]
   rw[db2_fz,fX]at p
   obtain ⟨r1,r2⟩:=root_2 d p
   refine eext (emul_ok _ _) h ?_ ?_
   ·rw[emul_a]
    simp only
    rw[mq_fz,dq_fz (mq_lt _ _),mq_fz,fX,fz0]
    exact r1
   ·rw[emul_b]
    simp only
    rw[mq_fz,dq_fz (mq_lt _ _),mq_fz,fX,fz0]
    exact r2
theorem hvq_lt {X:Nat} (h:X<qN):hvm X qN<qN:=by
 unfold hvm
 split<;>omega
theorem hv_fz (X:Nat):2*fz (hvm X qN)=fz X:=by
 show fz 2*_=_
 rw[←fz_mul,fz_eq]
 have:=qN_odd
 unfold hvm
 split
 ·rw[show 2*((X+qN) / 2)=X+qN by omega,Nat.add_mod_right]
 ·rw[show 2*(X / 2)=X by omega]
def reH (x:F2):Nat:=hvm (aq x.a (rtN (enorm x))) qN
def reK (x:F2):Nat:=hvm (dq x.a (rtN (enorm x))) qN
def reY (x:F2):Nat:=if sqN (reH x)=true then rtN (reH x)else rtN (reK x)
def reO (x:F2):F2:=⟨reY x,mq x.b (inv0 (db2 (reY x)))⟩
theorem reO_a (x:F2):(reO x).a=reY x:=by simp only[reO]
theorem reO_b (x:F2):(reO x).b=mq x.b (inv0 (db2 (reY x))):=by simp only[reO]
def reV (x:F2):F2:=if x.b=0 then (if sqN x.a=true then ⟨rtN x.a,0⟩else ⟨0,rtN (dq 0 x.a)⟩)else if sqN (enorm x)=true then reO x else ⟨0,0⟩
def reB (x:F2):Bool:=if x.b=0 then (if sqN x.a=true then true else sqN (dq 0 x.a))else if sqN (enorm x)=true then decide ((emul (reO x) (reO x)).a=x.a∧(emul (reO x) (reO x)).b=x.b)else false
theorem reY_lt (x:F2):reY x<qN:=by
 unfold reY
 split<;>exact rtN_lt _
theorem reV_ok (x:F2):(reV x).ok:=by
 unfold reV
 split
 ·split
  ·exact ⟨rtN_lt _,q_pos⟩
  ·exact ⟨q_pos,rtN_lt _⟩
 ·split
  ·refine ⟨?_,?_⟩
   ·rw[reO_a]
    exact reY_lt _
   ·rw[reO_b]
    exact mq_lt _ _
  ·exact ⟨q_pos,q_pos⟩
theorem root_3 {A B H K Y I:Fin qN} (hs:H+K=A) (hp:4*(H*K)= - (B*B)) (hY:Y*Y=H) (hI:I*(2*Y)=1):Y*Y-B*I*(B*I)=A∧Y*(B*I)+B*I*Y=B:=by
 have e1:I*(2*Y)*(I*(2*Y))=4*H*(I*I):=by rw[←hY];grobner
 rw[hI]at e1
 have e2:B*I*(B*I)= - (4*H*(I*I)*K):=by
  have:B*I*(B*I)=B*B*(I*I):=by grobner
  rw[this]
  have:B*B= - (4*(H*K)):=by rw[hp];grobner
  rw[this]
  grobner
 have e3:B*I*(B*I)= - K:=by
  rw[e2,←e1]
  grobner
 refine ⟨?_,?_⟩
 ·rw[e3,hY,←hs]
  grobner
 ·have:Y*(B*I)+B*I*Y=I*(2*Y)*B:=by grobner
  rw[this,hI]
  grobner
theorem re_parts {x:F2} (hb:x.b≠0) (h:x.ok) (hs:sqN (enorm x)=true):fz (reH x)+fz (reK x)=fz x.a∧4*(fz (reH x)*fz (reK x))= - (fz x.b*fz x.b):=by
 obtain ⟨t,ht⟩:=two_fz
 have h1:=hv_fz (aq x.a (rtN (enorm x)))
 have h2:=hv_fz (dq x.a (rtN (enorm x)))
 rw[aq_fz]at h1
 rw[dq_fz (rtN_lt _)]at h2
 have d:=sq_fz hs
 rw[enorm_fz]at d
 change 2*fz (reH x)=_ at h1
 change 2*fz (reK x)=_ at h2
 generalize fz (reH x)=H at *
 generalize fz (reK x)=K at *
 generalize fz x.a=A at *
 generalize fz x.b=B at *
 generalize fz (rtN (enorm x))=D at *
 constructor
 ·have e1:t*2*(H+K)=H+K:=by rw[ht];grobner
  have e2:t*(2*H+2*K)=t*2*A:=by rw[h1,h2];grobner
  rw[ht]at e2
  grobner
 ·have e:4*(H*K)=2*H*(2*K):=by grobner
  rw[e,h1,h2]
  grobner
theorem re_sym {x:F2} (hb:x.b≠0) (h:x.ok) (hs:sqN (enorm x)=true):reH x≠0∧(sqN (reH x)=true∨sqN (reK x)=true):=by
 obtain ⟨_,p⟩:=re_parts hb h hs
 have lH:reH x<qN:=hvq_lt (aq_lt _ _)
 have lK:reK x<qN:=hvq_lt (dq_lt _ _)
 have nz:∀ {a b:Nat},a<qN→b<qN→4*(fz a*fz b)= - (fz x.b*fz x.b)→a≠0:=fun {a b} la lb p e=>by
  subst e
  rw[fz0]at p
  have:fz x.b*fz x.b=0:=by
   generalize fz x.b=B at *
   generalize fz b=C at *
   grobner
  rcases fz_dom h.2 h.2 this with c | c<;>exact hb c
 have nH:=nz lH lK p
 have nK:=nz (a:=reK x) (b:=reH x) lK lH (by rw[←p];generalize fz (reH x)=C;generalize fz (reK x)=D;grobner)
 refine ⟨nH,?_⟩
 have mH:reH x%qN≠0:=by rw[Nat.mod_eq_of_lt lH];exact nH
 have mK:reK x%qN≠0:=by rw[Nat.mod_eq_of_lt lK];exact nK
 have mb:x.b%qN≠0:=by rw[Nat.mod_eq_of_lt h.2];exact hb
 rw[sqN_iff lH,sqN_iff lK]
 apply Classical.byContradiction
 intro c
 rw[not_or]at c
 obtain ⟨c1,c2⟩:=c
 obtain ⟨_,j1⟩:=lg_ne lH (Classical.byContradiction c1)
 obtain ⟨_,j2⟩:=lg_ne lK (Classical.byContradiction c2)
 have e:2*2*(reH x*reK x)%qN=(qN-1)*(x.b*x.b)%qN:=by
  rw[←fz_eq]
  simp only[fz_mul]
  have q1:fz (qN-1)+1=0:=by
   show fz (qN-1)+fz 1=fz 0
   rw[←fz_add,fz_eq]
   decide
  show (2:Fin qN)*2*_=_
  generalize fz (qN-1)=m at *
  generalize fz x.b=B at *
  generalize fz (reH x)=C at *
  generalize fz (reK x)=D at *
  grobner
 have n2:2%qN≠0:=by decide
 have n1:(qN-1)%qN≠0:=by decide
 have l:J ((2*2*(reH x*reK x):Nat):Int) qN=1:=by rw[J_mulN (mul_ne n2 n2) (mul_ne mH mK),J_mulN n2 n2,J_self n2,J_mulN mH mK,j1,j2];rfl
 have r:J (((qN-1)*(x.b*x.b):Nat):Int) qN= -1:=by
  rw[J_mulN n1 (mul_ne mb mb),J_mulN mb mb,J_self mb,J_m1]
  rfl
 rw[←J_mod,e,J_mod,r]at l
 exact absurd l (by decide)
theorem re_sq {x:F2} (h:x.ok) (hs:sqN (enorm x)=true):reB x=true∧emul (reV x) (reV x)=x:=by
 unfold reB reV
 by_cases hb:x.b=0
 ·rw[if_pos hb,if_pos hb]
  refine ⟨?_,(flat_sq h hb).2⟩
  by_cases s:sqN x.a=true
  ·rw[if_pos s]
  ·rw[if_neg s]
   exact sq_neg h.1 s
 ·rw[if_neg hb,if_neg hb,if_pos hs,if_pos hs]
  have e:emul (reO x) (reO x)=x:=by
   obtain ⟨ps,pp⟩:=re_parts hb h hs
   obtain ⟨nH,sy⟩:=re_sym hb h hs
   have hy:(fz (reY x)*fz (reY x)=fz (reH x))∨(fz (reY x)*fz (reY x)=fz (reK x)):=by
    unfold reY
    by_cases s:sqN (reH x)=true
    ·rw[if_pos s]
     exact .inl (sq_fz s)
    ·rw[if_neg s]
     exact .inr (sq_fz (sy.resolve_left s))
   have ny:reY x≠0:=by
    intro e0
    rw[e0,fz0]at hy
    have:fz x.b*fz x.b=0:=by
     generalize fz x.b=B at *
     generalize fz (reH x)=C at *
     generalize fz (reK x)=D at *
     rcases hy with hy | hy<;>grobner
    rcases fz_dom h.2 h.2 this with c | c<;>exact hb c
   have hi:=inv_fz (db2_lt (reY x)) (ne_two (reY_lt x) ny)
   rw[db2_fz]at hi
   have fin:fz (reY x)*fz (reY x)-fz x.b*fz (inv0 (db2 (reY x)))*(fz x.b*fz (inv0 (db2 (reY x))))=fz x.a∧fz (reY x)*(fz x.b*fz (inv0 (db2 (reY x))))+fz x.b*fz (inv0 (db2 (reY x)))*fz (reY x)=fz x.b:=by
    rcases hy with hy | hy
    ·exact root_3 ps pp hy hi
    ·refine root_3 (H:=fz (reK x)) (K:=fz (reH x)) ?_ ?_ hy hi
     ·rw[←ps]
      generalize fz (reH x)=C
      generalize fz (reK x)=D
      grobner
     ·rw[←pp]
      generalize fz (reH x)=C
      generalize fz (reK x)=D
      grobner
   refine eext (emul_ok _ _) h ?_ ?_
   ·rw[emul_a,reO_a,reO_b,mq_fz]
    exact fin.1
   ·rw[emul_b,reO_a,reO_b,mq_fz]
    exact fin.2
  rw[e]
  exact ⟨by simp,rfl⟩
theorem re_ns {x:F2} (h:x.ok) (hs:sqN (enorm x)≠true):reB x=false:=by
 unfold reB
 by_cases hb:x.b=0
 ·exfalso
  apply hs
  unfold enorm
  rw[hb]
  exact sq_one h.1
 ·rw[if_neg hb,if_neg hs]
theorem reB_eq {x:F2} (h:x.ok):reB x=sqN (enorm x):=by
 by_cases hs:sqN (enorm x)=true
 ·rw[hs,(re_sq h hs).1]
 ·rw[re_ns h hs]
  simpa using hs
structure Z2 where
 x:Fin qN
 y:Fin qN
instance : Add Z2:=⟨fun p q=>⟨p.x+q.x,p.y+q.y⟩⟩
instance : Sub Z2:=⟨fun p q=>⟨p.x-q.x,p.y-q.y⟩⟩
instance : Mul Z2:=⟨fun p q=>⟨p.x*q.x-p.y*q.y,p.x*q.y+p.y*q.x⟩⟩
def zc (k:Fin qN):Z2:=⟨k,0⟩
theorem Z2.ad_x (p q:Z2):(p+q).x=p.x+q.x:=rfl
theorem Z2.ad_y (p q:Z2):(p+q).y=p.y+q.y:=rfl
theorem Z2.sb_x (p q:Z2):(p-q).x=p.x-q.x:=rfl
theorem Z2.sb_y (p q:Z2):(p-q).y=p.y-q.y:=rfl
theorem Z2.ml_x (p q:Z2):(p*q).x=p.x*q.x-p.y*q.y:=rfl
theorem Z2.ml_y (p q:Z2):(p*q).y=p.x*q.y+p.y*q.x:=rfl
theorem zc_x (k:Fin qN):(zc k).x=k:=rfl
theorem zc_y (k:Fin qN):(zc k).y=0:=rfl
theorem Z2.eq {p q:Z2} (h:p.x=q.x) (k:p.y=q.y):p=q:=by
 cases p;cases q
 simp only at h k
 rw[h,k]
theorem Z2.mc (p q:Z2):p*q=q*p:=by
 refine Z2.eq ?_ ?_<;>simp only[Z2.ml_x,Z2.ml_y]<;>grobner
theorem Z2.ma (p q r:Z2):p*q*r=p*(q*r):=by
 refine Z2.eq ?_ ?_<;>simp only[Z2.ml_x,Z2.ml_y]<;>grobner
theorem Z2.ml (p q r:Z2):p*(q*r)=q*(p*r):=by rw[←Z2.ma,Z2.mc p q,Z2.ma]
theorem Z2.one (p:Z2):zc 1*p=p:=by
 refine Z2.eq ?_ ?_<;>simp only[Z2.ml_x,Z2.ml_y,zc_x,zc_y]<;>grobner
def tz (p:F2):Z2:=⟨fz p.a,fz p.b⟩
theorem tz_mul (p q:F2):tz (emul p q)=tz p*tz q:=Z2.eq (emul_a p q) (emul_b p q)
theorem tz_add (p q:F2):tz (eadd p q)=tz p+tz q:=Z2.eq (eadd_a p q) (eadd_b p q)
theorem tz_sub {p q:F2} (h:q.ok):tz (esub p q)=tz p-tz q:=Z2.eq (esub_a h) (esub_b h)
theorem tz_inj {p q:F2} (h:p.ok) (k:q.ok) (e:tz p=tz q):p=q:=eext h k (congrArg Z2.x e) (congrArg Z2.y e)
def nz (p:Z2):Fin qN:=p.x*p.x+p.y*p.y
theorem nz_mul (p q:Z2):nz (p*q)=nz p*nz q:=by
 unfold nz
 simp only[Z2.ml_x,Z2.ml_y]
 grobner
theorem nz_tz (p:F2):fz (enorm p)=nz (tz p):=enorm_fz p
def twE:F2:=⟨19485874751759354771024239261021720505790618469301721065564631296452457478373,266929791119991161246907387137283842545076965332900288569378510910307636690⟩
def oneE:F2:=⟨1,0⟩
def cgE:F2:=⟨19485874751759354771024239261021720505790618469301721065564631296452457478374,266929791119991161246907387137283842545076965332900288569378510910307636690⟩
def c2E:F2:=⟨10944121435919637611123202872628637544348155578648911831344518947322613104291,0⟩
def c3E:F2:=⟨18992192239972082890849143911285057164064277369389217330423471574879236301292,21819008332247140148575583693947636719449476128975323941588917397607662637108⟩
def c4E:F2:=⟨10499238450719652342378357227399831140106360636427411350395554762472100376473,6940174569119770192419592065569379906172001098655407502803841283667998553941⟩
def gE (x:F2):F2:=eadd (emul x (emul x x)) twE
def tE (u:F2):F2:=emul (emul u u) cgE
def moE (u:F2):F2:=eadd oneE (tE u)
def leE (u:F2):F2:=esub oneE (tE u)
def ivE (u:F2):F2:=einv (emul (leE u) (moE u))
def stE (u:F2):F2:=emul (emul (emul u (leE u)) (ivE u)) c3E
def x1E (u:F2):F2:=esub c2E (stE u)
def x2E (u:F2):F2:=eadd c2E (stE u)
def vvE (u:F2):F2:=emul (emul (moE u) (moE u)) (ivE u)
def x3E (u:F2):F2:=eadd (emul (emul (vvE u) (vvE u)) c4E) oneE
theorem tz_g (x:F2):tz (gE x)=tz x*(tz x*tz x)+tz twE:=by
 unfold gE
 rw[tz_add,tz_mul,tz_mul]
theorem zz3 {z:Fin qN} (h:z=0):z+z=0:=by grobner
theorem c_two:tz c2E+tz c2E=zc (-1):=by
 refine Z2.eq ?_ ?_
 ·have:fz c2E.a+fz c2E.a+1=0:=by
   show _+fz 1=fz 0
   rw[←fz_add,←fz_add,fz_eq]
   decide +kernel
  show fz c2E.a+fz c2E.a= -1
  grobner
 ·exact zz3 fz0
theorem c_g:tz cgE=zc 1+tz twE:=by
 refine Z2.eq ?_ ?_
 ·show fz cgE.a=fz 1+fz twE.a
  rw[←fz_add,fz_eq]
  decide +kernel
 ·show fz cgE.b=0+fz twE.b
  rw[show cgE.b=twE.b from rfl]
  grobner
theorem c_three:tz c3E*tz c3E=zc (-3)*tz cgE:=by
 have e:emul c3E c3E=emul ⟨qN-3,0⟩ cgE:=F2.eq (by decide +kernel) (by decide +kernel)
 have e:=congrArg tz e
 rw[tz_mul,tz_mul]at e
 rw[e,show tz ⟨qN-3,0⟩=zc (-3) from Z2.eq (by decide) (by decide)]
theorem c_four:zc 3*tz c4E=zc (-4)*tz cgE:=by
 have e:emul ⟨3,0⟩ c4E=emul ⟨qN-4,0⟩ cgE:=F2.eq (by decide +kernel) (by decide +kernel)
 have e:=congrArg tz e
 rw[tz_mul,tz_mul]at e
 have h4:tz ⟨qN-4,0⟩=zc (-4):=by
  refine Z2.eq ?_ ?_
  ·show fz (qN-4)= -4
   have:fz (qN-4)+4=0:=by
    show _+fz 4=fz 0
    rw[←fz_add,fz_eq]
    decide +kernel
   grobner
  ·rfl
 rw[h4]at e
 exact e
theorem sv_p {X1 X2 C S U L M I T G W c3:Z2} (hx1:X1=C-S) (hx2:X2=C+S) (hC:C+C=zc (-1)) (hS:S=U*L*I*c3) (hT:T=U*U*G) (hL:L=zc 1-T) (hM:M=zc 1+T) (h3:c3*c3=zc (-3)*G) (hI:I*(L*M)=zc 1) (hW:W=L*L*I):
  zc 4*(X1*X2-zc 1)=zc (-3)*(W*W):=by
 have hSS:S*S=zc (-3)*(T*((L*I)*(L*I))):=by
  have e:S*S=(c3*c3)*((U*U)*((L*I)*(L*I))):=by
   rw[hS]
   simp only[Z2.ma,Z2.mc,Z2.ml]
  rw[e,h3,hT]
  simp only[Z2.ma,Z2.mc,Z2.ml]
 have hY:L*I*(zc 2-L)=zc 1:=by
  have:zc 2-L=M:=by
   rw[hL,hM]
   refine Z2.eq ?_ ?_<;>simp only[Z2.sb_x,Z2.sb_y,Z2.ad_x,Z2.ad_y,zc_x,zc_y]<;>grobner
  rw[this,←hI]
  simp only[Z2.ma,Z2.mc,Z2.ml]
 have hWY:W=L*(L*I):=by rw[hW,Z2.ma]
 have hTL:T=zc 1-L:=by
  rw[hL]
  refine Z2.eq ?_ ?_<;>simp only[Z2.sb_x,Z2.sb_y,zc_x,zc_y]<;>grobner
 rw[hTL]at hSS
 rw[hWY]
 generalize L*I=Y at *
 have h12:zc 4*(X1*X2-zc 1)=zc (-3)-zc 4*(S*S):=by
  rw[hx1,hx2]
  have cx:=congrArg Z2.x hC
  have cy:=congrArg Z2.y hC
  simp only[Z2.ad_x,Z2.ad_y,zc_x,zc_y]at cx cy
  refine Z2.eq ?_ ?_<;>simp only[Z2.sb_x,Z2.sb_y,Z2.ad_x,Z2.ad_y,Z2.ml_x,Z2.ml_y,zc_x,zc_y]<;>grobner
 have h3':zc (-3)=zc (-3)*((Y*(zc 2-L))*(Y*(zc 2-L))):=by
  rw[hY]
  refine Z2.eq ?_ ?_<;>simp only[Z2.ml_x,Z2.ml_y,zc_x,zc_y]<;>grobner
 rw[h12,hSS]
 have e:zc (-3)-zc 4*(zc (-3)*((zc 1-L)*(Y*Y)))=zc (-3)*((Y*(zc 2-L))*(Y*(zc 2-L)))-zc 4*(zc (-3)*((zc 1-L)*(Y*Y))):=by rw[←h3']
 rw[e]
 refine Z2.eq ?_ ?_<;>simp only[Z2.sb_x,Z2.sb_y,Z2.ml_x,Z2.ml_y,zc_x,zc_y]<;>grobner
theorem sv_e {P V W G c4 E:Z2} (hp:zc 4*P=zc (-3)*(W*W)) (hE:E=V*V*c4) (h4:zc 3*c4=zc (-4)*G) (hVW:V*W=zc 1):zc 12*(P*E)=zc 12*G:=by
 have e1:zc 12*(P*E)=(zc 4*P)*((V*V)*(zc 3*c4)):=by
  rw[hE,show zc 12=zc 4*zc 3 from Z2.eq (by decide) (by decide)]
  simp only[Z2.ma,Z2.mc,Z2.ml]
 rw[e1,hp,h4]
 have e2:zc (-3)*(W*W)*(V*V*(zc (-4)*G))=zc (-3)*zc (-4)*((V*W)*(V*W)*G):=by simp only[Z2.ma,Z2.mc,Z2.ml]
 rw[e2,hVW]
 refine Z2.eq ?_ ?_<;>simp only[Z2.ml_x,Z2.ml_y,zc_x,zc_y]<;>grobner
theorem z_cancel {A B:Z2} (h:zc 12*A=zc 12*B):A=B:=by
 have t12:∃t:Fin qN,t*12=1:=⟨fz (inv0 12),by
  show fz (inv0 12)*fz 12=fz 1
  rw[←fz_mul,fz_eq]
  decide +kernel⟩
 obtain ⟨t,ht⟩:=t12
 have hx:=congrArg Z2.x h
 have hy:=congrArg Z2.y h
 simp only[Z2.ml_x,Z2.ml_y,zc_x,zc_y]at hx hy
 refine Z2.eq ?_ ?_
 ·have e1:t*12*A.x=A.x:=by rw[ht];grobner
  have e2:t*12*B.x=B.x:=by rw[ht];grobner
  have e3:t*(12*A.x-0*A.y)=t*(12*B.x-0*B.y):=by rw[hx]
  grobner
 ·have e1:t*12*A.y=A.y:=by rw[ht];grobner
  have e2:t*12*B.y=B.y:=by rw[ht];grobner
  have e3:t*(12*A.y+0*A.x)=t*(12*B.y+0*B.x):=by rw[hy]
  grobner
theorem sv_1 {X P B:Z2} (h:P=X*(zc (-1)-X)-zc 1):(X*(X*X)+B)*((zc (-1)-X)*((zc (-1)-X)*(zc (-1)-X))+B)=P*P*P+zc 3*(P*P)+zc 3*(P*(zc 1+B))+(zc 1+B)*(zc 1+B):=by
 rw[h]
 refine Z2.eq ?_ ?_<;>simp only[Z2.sb_x,Z2.sb_y,Z2.ad_x,Z2.ad_y,Z2.ml_x,Z2.ml_y,zc_x,zc_y]<;>grobner
theorem sv_3 {P E B:Z2} (h:zc 1+B=P*E):P*P*P*((zc 1+E)*((zc 1+E)*(zc 1+E))+B)=(P*E)*(P*P*P+zc 3*(P*P)+zc 3*(P*(P*E))+P*E*(P*E)):=by
 have hB:B=P*E-zc 1:=by
  rw[←h]
  refine Z2.eq ?_ ?_<;>simp only[Z2.sb_x,Z2.sb_y,Z2.ad_x,Z2.ad_y,zc_x,zc_y]<;>grobner
 rw[hB]
 refine Z2.eq ?_ ?_<;>simp only[Z2.sb_x,Z2.sb_y,Z2.ad_x,Z2.ad_y,Z2.ml_x,Z2.ml_y,zc_x,zc_y]<;>grobner
theorem emul_0 (p:F2):emul p ⟨0,0⟩=⟨0,0⟩:=by
 unfold emul
 simp only[mq_zero]
 rfl
theorem tz_one:tz oneE=zc 1:=rfl
theorem oneE_ok:oneE.ok:=⟨by decide,by decide⟩
theorem three_k {s k n1 n2 n3:Nat} (hs:s%qN≠0) (hk:k%qN≠0) (h1:n1<qN) (h2:n2<qN) (h3:n3<qN) (h:s*s*n3%qN=k*k*(n1*n2)%qN):¬(lgN n1= -1∧lgN n2= -1∧lgN n3= -1):=by
 rintro ⟨e1,e2,e3⟩
 obtain ⟨m1,j1⟩:=lg_ne h1 e1
 obtain ⟨m2,j2⟩:=lg_ne h2 e2
 obtain ⟨m3,j3⟩:=lg_ne h3 e3
 have l:J ((s*s*n3:Nat):Int) qN= -1:=by rw[J_mulN (mul_ne hs hs) m3,J_mulN hs hs,J_self hs,j3];rfl
 have r:J ((k*k*(n1*n2):Nat):Int) qN=1:=by rw[J_mulN (mul_ne hk hk) (mul_ne m1 m2),J_mulN hk hk,J_self hk,J_mulN m1 m2,j1,j2];rfl
 rw[←J_mod,h,J_mod,r]at l
 exact absurd l (by decide)
theorem svdwE (u:F2):sqN (enorm (gE (x1E u)))=true∨sqN (enorm (gE (x2E u)))=true∨sqN (enorm (gE (x3E u)))=true:=by
 by_cases h0:(emul (leE u) (moE u)).a=0∧(emul (leE u) (moE u)).b=0
 ·right;right
  have hi:ivE u=⟨0,0⟩:=by
   unfold ivE
   have:emul (leE u) (moE u)=⟨0,0⟩:=by
    generalize emul (leE u) (moE u)=z at *
    cases z
    simp only at h0
    rw[h0.1,h0.2]
   rw[this,einv_zero]
  have hx:x3E u=oneE:=by
   unfold x3E vvE
   rw[hi,emul_0,emul_0]
   exact F2.eq (by decide) (by decide)
  rw[hx]
  decide +kernel
 ·have hD:tz (ivE u)*(tz (leE u)*tz (moE u))=zc 1:=by
   rw[←tz_mul,←tz_mul]
   unfold ivE
   rw[einv_mul (emul_ok _ _) h0]
   rfl
  have hx1:tz (x1E u)=tz c2E-tz (stE u):=tz_sub (emul_ok _ _)
  have hx2:tz (x2E u)=tz c2E+tz (stE u):=tz_add _ _
  have hS:tz (stE u)=tz u*tz (leE u)*tz (ivE u)*tz c3E:=by
   unfold stE
   rw[tz_mul,tz_mul,tz_mul]
  have hT:tz (tE u)=tz u*tz u*tz cgE:=by
   unfold tE
   rw[tz_mul,tz_mul]
  have hL:tz (leE u)=zc 1-tz (tE u):=tz_sub (emul_ok _ _)
  have hM:tz (moE u)=zc 1+tz (tE u):=tz_add _ _
  have hV:tz (vvE u)=tz (moE u)*tz (moE u)*tz (ivE u):=by
   unfold vvE
   rw[tz_mul,tz_mul]
  have hp:=sv_p hx1 hx2 c_two hS hT hL hM c_three hD rfl
  have hX:tz (x2E u)=zc (-1)-tz (x1E u):=by
   rw[hx1,hx2,←c_two]
   refine Z2.eq ?_ ?_<;>simp only[Z2.sb_x,Z2.sb_y,Z2.ad_x,Z2.ad_y]<;>grobner
  have hE:tz (x3E u)=zc 1+tz (vvE u)*tz (vvE u)*tz c4E:=by
   unfold x3E
   rw[tz_add,tz_mul,tz_mul,tz_one]
   refine Z2.eq ?_ ?_<;>simp only[Z2.ad_x,Z2.ad_y]<;>grobner
  have hVW:tz (vvE u)*(tz (leE u)*tz (leE u)*tz (ivE u))=zc 1:=by
   rw[hV]
   have e:tz (moE u)*tz (moE u)*tz (ivE u)*(tz (leE u)*tz (leE u)*tz (ivE u))=(tz (ivE u)*(tz (leE u)*tz (moE u)))*(tz (ivE u)*(tz (leE u)*tz (moE u))):=by
    simp only[Z2.ma,Z2.mc,Z2.ml]
   rw[e,hD,Z2.one]
  have hpe:=z_cancel (sv_e hp rfl c_four hVW)
  have hw:tz (emul (emul (leE u) (leE u)) (ivE u))=tz (leE u)*tz (leE u)*tz (ivE u):=by rw[tz_mul,tz_mul]
  have hP:tz (esub (emul (x1E u) (x2E u)) oneE)=tz (x1E u)*tz (x2E u)-zc 1:=by rw[tz_sub oneE_ok,tz_mul,tz_one]
  have s1:=sv_1 (X:=tz (x1E u)) (B:=tz twE) (by rw[←hX])
  rw[←hX]at s1
  rw[←hP]at hp hpe s1
  rw[←hw]at hp hVW
  generalize hEE:tz (vvE u)*tz (vvE u)*tz c4E=E at *
  have s3:=sv_3 (B:=tz twE) (P:=tz (esub (emul (x1E u) (x2E u)) oneE)) (E:=E) (by rw[hpe,c_g])
  rw[←hE]at s3
  rw[←c_g,←hpe]at s1
  rw[←s1,←tz_g,←tz_g,←tz_g,hpe]at s3
  generalize hPP:esub (emul (x1E u) (x2E u)) oneE=PP at *
  generalize hWW:emul (emul (leE u) (leE u)) (ivE u)=WW at *
  have key:tz (emul (emul WW c3E) PP)*tz (emul (emul WW c3E) PP)*tz (gE (x3E u))=zc 4*(tz cgE*tz cgE*(tz (gE (x1E u))*tz (gE (x2E u)))):=by
   rw[tz_mul,tz_mul]
   have e1:tz WW*tz c3E*tz PP*(tz WW*tz c3E*tz PP)*tz (gE (x3E u))=tz c3E*tz c3E*(tz WW*tz WW)*(tz PP*tz PP*tz (gE (x3E u))):=by simp only[Z2.ma,Z2.mc,Z2.ml]
   rw[e1,c_three]
   have e2:zc (-3)*tz cgE*(tz WW*tz WW)*(tz PP*tz PP*tz (gE (x3E u)))=zc (-3)*(tz WW*tz WW)*(tz cgE*(tz PP*tz PP*tz (gE (x3E u)))):=by simp only[Z2.ma,Z2.mc,Z2.ml]
   rw[e2,←hp]
   have e3:zc 4*tz PP*(tz cgE*(tz PP*tz PP*tz (gE (x3E u))))=zc 4*(tz cgE*(tz PP*tz PP*tz PP*tz (gE (x3E u)))):=by simp only[Z2.ma,Z2.mc,Z2.ml]
   rw[e3,s3]
   simp only[Z2.ma,Z2.mc,Z2.ml]
  have kn:=congrArg nz key
  simp only[nz_mul]at kn
  have n4:nz (zc 4)=fz 4*fz 4:=by decide
  rw[n4]at kn
  have kN:enorm (emul (emul WW c3E) PP)*enorm (emul (emul WW c3E) PP)*enorm (gE (x3E u))%qN=4*enorm cgE*(4*enorm cgE)*(enorm (gE (x1E u))*enorm (gE (x2E u)))%qN:=by
   rw[←fz_eq]
   simp only[fz_mul,nz_tz]
   rw[tz_mul,tz_mul,nz_mul,nz_mul]
   rw[tz_mul,tz_mul,nz_mul,nz_mul]at kn
   rw[kn]
   generalize nz (tz cgE)=a
   generalize nz (tz (gE (x1E u)))=b
   generalize nz (tz (gE (x2E u)))=c
   grobner
  have hs0:enorm (emul (emul WW c3E) PP)%qN≠0:=by
   intro e
   have e:fz (enorm (emul (emul WW c3E) PP))=fz 0:=fz_eq.2 (by rw[e];rfl)
   rw[nz_tz,tz_mul,tz_mul,nz_mul,nz_mul,fz0]at e
   have v1:=congrArg nz hVW
   have v2:=congrArg nz hpe
   rw[nz_mul]at v1 v2
   have n1:nz (zc 1)=1:=by decide
   rw[n1]at v1
   have f:fz (enorm c3E*enorm cgE)=fz 0:=by
    rw[fz_mul,nz_tz,nz_tz,←v2,fz0]
    generalize nz (tz c3E)=c at *
    generalize nz (tz WW)=w at *
    generalize nz (tz PP)=p at *
    generalize nz (tz (vvE u))=v at *
    generalize nz E=d at *
    have:c*(p*d)=(v*w)*(c*(p*d)):=by rw[v1];grobner
    rw[this]
    have:v*w*(c*(p*d))=v*d*(w*c*p):=by grobner
    rw[this,e]
    grobner
   exact absurd (fz_eq.1 f) (by decide +kernel)
  have t:=three_k hs0 (by decide +kernel) (enorm_lt _) (enorm_lt _) (enorm_lt _) kN
  rw[sqN_iff (enorm_lt _),sqN_iff (enorm_lt _),sqN_iff (enorm_lt _)]
  by_cases a:lgN (enorm (gE (x1E u)))= -1
  ·by_cases b:lgN (enorm (gE (x2E u)))= -1
   ·exact .inr (.inr fun c=>t ⟨a,b,c⟩)
   ·exact .inr (.inl b)
  ·exact .inl a
def mxE (u:F2):F2:=if sqN (enorm (gE (x1E u)))=true then x1E u else if sqN (enorm (gE (x2E u)))=true then x2E u else x3E u
def myE (u:F2):F2:=eadj (esg u) (reV (gE (mxE u)))
theorem gE_ok (x:F2):(gE x).ok:=eadd_ok _ _
theorem mxE_ok (u:F2):(mxE u).ok:=by
 unfold mxE
 split
 ·exact esub_ok _ _
 ·split<;>exact eadd_ok _ _
theorem eadj_ok {s:Nat} {x:F2} (h:x.ok):(eadj s x).ok:=by
 unfold eadj
 split
 ·exact h
 ·exact eneg_ok _
theorem myE_ok (u:F2):(myE u).ok:=eadj_ok (reV_ok _)
theorem sq_mxE (u:F2):sqN (enorm (gE (mxE u)))=true:=by
 have sv:=svdwE u
 unfold mxE
 split
 ·assumption
 ·rename_i h1
  split
  ·assumption
  ·rename_i h2
   rcases sv with h | h | h
   ·exact absurd h h1
   ·exact absurd h h2
   ·exact h
theorem eneg_mul {x:F2} (h:x.ok):emul (eneg x) (eneg x)=emul x x:=by
 refine eext (emul_ok _ _) (emul_ok _ _) ?_ ?_
 ·rw[emul_a,emul_a,eneg_a h,eneg_b h]
  grobner
 ·rw[emul_b,emul_b,eneg_a h,eneg_b h]
  grobner
theorem eadj_mul {s:Nat} {x:F2} (h:x.ok):emul (eadj s x) (eadj s x)=emul x x:=by
 unfold eadj
 split
 ·rfl
 ·exact eneg_mul h
theorem my_on (u:F2):emul (myE u) (myE u)=gE (mxE u):=by
 unfold myE
 rw[eadj_mul (reV_ok _)]
 exact (re_sq (gE_ok _) (sq_mxE u)).2
theorem my_impl (u:F2):eadj (esg u) (sqE (gE (mxE u)))=myE u:=by
 unfold myE
 refine eadj_same (esg_lt u) (sqE_ok _) (reV_ok _) ?_
 rw[sqE_sq (gE_ok _) (sq_mxE u),(re_sq (gE_ok _) (sq_mxE u)).2]
theorem kar_b (x y:F2):dq (dq (mq (aq x.a x.b) (aq y.a y.b)) (mq x.a y.a)) (mq x.b y.b)=(emul x y).b:=by
 refine nfz (dq_lt _ _) (emul_ok _ _).2 ?_
 rw[emul_b,dq_fz (mq_lt _ _),dq_fz (mq_lt _ _),mq_fz,mq_fz,mq_fz,aq_fz,aq_fz]
 generalize fz x.a=a
 generalize fz x.b=b
 generalize fz y.a=c
 generalize fz y.b=d
 grobner
theorem squ_a {x:F2} (h:x.ok):mq (aq x.a x.b) (dq x.a x.b)=(emul x x).a:=by
 refine nfz (mq_lt _ _) (emul_ok _ _).1 ?_
 rw[emul_a,mq_fz,aq_fz,dq_fz h.2]
 generalize fz x.a=a
 generalize fz x.b=b
 grobner
theorem squ_b (x:F2):db2 (mq x.a x.b)=(emul x x).b:=by
 refine nfz (db2_lt _) (emul_ok _ _).2 ?_
 rw[emul_b,db2_fz,mq_fz]
 generalize fz x.a=a
 generalize fz x.b=b
 grobner
theorem emul_comm (x y:F2):emul x y=emul y x:=by
 refine eext (emul_ok _ _) (emul_ok _ _) ?_ ?_
 ·rw[emul_a,emul_a]
  grobner
 ·rw[emul_b,emul_b]
  grobner
end Go.Sx
namespace Go.Sx
open Go Go.Proofs Go.Num
set_option maxRecDepth 100000
structure Ep (j0 j1 j2 j3 j4 j5 j6 j7:Int) (p:F2):Prop where
 a:El j0 j1 j2 j3 (mont p.a)
 b:El j4 j5 j6 j7 (mont p.b)
 la:p.a<qN
 lb:p.b<qN
theorem Ep.ok {j0 j1 j2 j3 j4 j5 j6 j7:Int} {p:F2} (h:Ep j0 j1 j2 j3 j4 j5 j6 j7 p):p.ok:=⟨h.la,h.lb⟩
theorem Ep.ex {p:F2} (h:p.ok):∃j0 j1 j2 j3 j4 j5 j6 j7,Ep j0 j1 j2 j3 j4 j5 j6 j7 p:=⟨_,_,_,_,_,_,_,_,El.of (mont_lt _),El.of (mont_lt _),h.1,h.2⟩
theorem ngC_q {X:Nat} {a0 a1 a2 a3:Int} {K:Int→Int→Int→Int→Prop} (ha:El a0 a1 a2 a3 (mont X)) (hX:X<qN) (h:∀y0 y1 y2 y3,El y0 y1 y2 y3 (mont (dq 0 X))→K y0 y1 y2 y3):ngC a0 a1 a2 a3 K:=ngC_m ha hX h
def cxAdE:Cx Tryz.prog:= { rds:= [],efs:= [kAddA],eqs:= [] }
theorem vc_ade0 (z0 z1 z2 z3 z4 z5 z6 z7 x0 x1 x2 x3 x4 x5 x6 x7 y0 y1 y2 y3 y4 y5 y6 y7:Int) (K:SV→Mem→Prop):execF cxAdE u9 Tryz.f70 64 [.ptr 1 (.lit 0),.ptr 9 (.lit 0),.ptr 17 (.lit 0)] (memL [(1,⟨false,w8 z0 z1 z2 z3 z4 z5 z6 z7⟩),(9,⟨true,w8 x0 x1 x2 x3 x4 x5 x6 x7⟩),(17,⟨true,w8 y0 y1 y2 y3 y4 y5 y6 y7⟩)]) K=
 (addC x0 x1 x2 x3 y0 y1 y2 y3 fun a0 b0 c0 d0=>
 addC x4 x5 x6 x7 y4 y5 y6 y7 fun a1 b1 c1 d1=>
 K (.tup []) (memL [(1,⟨false,w8 a0 b0 c0 d0 a1 b1 c1 d1⟩),(9,⟨true,w8 x0 x1 x2 x3 x4 x5 x6 x7⟩),(17,⟨true,w8 y0 y1 y2 y3 y4 y5 y6 y7⟩)])):=by kernel_rfl
theorem ade_walk0 {x0 x1 x2 x3 x4 x5 x6 x7 y0 y1 y2 y3 y4 y5 y6 y7:Int} {p q:F2} {K:SV→Mem→Prop} (hup:KUp K) (hp:Ep x0 x1 x2 x3 x4 x5 x6 x7 p) (hq:Ep y0 y1 y2 y3 y4 y5 y6 y7 q) (hK:∀j0 j1 j2 j3 j4 j5 j6 j7,Ep j0 j1 j2 j3 j4 j5 j6 j7 (eadd p q)→K (.tup []) (memL [(1,⟨false,w8 j0 j1 j2 j3 j4 j5 j6 j7⟩),(9,⟨true,w8 x0 x1 x2 x3 x4 x5 x6 x7⟩),(17,⟨true,w8 y0 y1 y2 y3 y4 y5 y6 y7⟩)])):
  addC x0 x1 x2 x3 y0 y1 y2 y3 fun a0 b0 c0 d0=>
  addC x4 x5 x6 x7 y4 y5 y6 y7 fun a1 b1 c1 d1=>
  K (.tup []) (memL [(1,⟨false,w8 a0 b0 c0 d0 a1 b1 c1 d1⟩),(9,⟨true,w8 x0 x1 x2 x3 x4 x5 x6 x7⟩),(17,⟨true,w8 y0 y1 y2 y3 y4 y5 y6 y7⟩)]):=by
 refine addC_q hp.a hq.a ?_
 intro a0 b0 c0 d0 h0
 refine addC_q hp.b hq.b ?_
 intro a1 b1 c1 d1 h1
 exact hK _ _ _ _ _ _ _ _ ⟨h0,h1,(eadd_ok _ _).1,(eadd_ok _ _).2⟩
theorem vc_ade1 (z0 z1 z2 z3 z4 z5 z6 z7 y0 y1 y2 y3 y4 y5 y6 y7:Int) (K:SV→Mem→Prop):execF cxAdE u9 Tryz.f70 64 [.ptr 1 (.lit 0),.ptr 1 (.lit 0),.ptr 9 (.lit 0)] (memL [(1,⟨false,w8 z0 z1 z2 z3 z4 z5 z6 z7⟩),(9,⟨true,w8 y0 y1 y2 y3 y4 y5 y6 y7⟩)]) K=
 (addC z0 z1 z2 z3 y0 y1 y2 y3 fun a0 b0 c0 d0=>
 addC z4 z5 z6 z7 y4 y5 y6 y7 fun a1 b1 c1 d1=>
 K (.tup []) (memL [(1,⟨false,w8 a0 b0 c0 d0 a1 b1 c1 d1⟩),(9,⟨true,w8 y0 y1 y2 y3 y4 y5 y6 y7⟩)])):=by kernel_rfl
theorem ade_walk1 {z0 z1 z2 z3 z4 z5 z6 z7 y0 y1 y2 y3 y4 y5 y6 y7:Int} {p q:F2} {K:SV→Mem→Prop} (hup:KUp K) (hp:Ep z0 z1 z2 z3 z4 z5 z6 z7 p) (hq:Ep y0 y1 y2 y3 y4 y5 y6 y7 q) (hK:∀j0 j1 j2 j3 j4 j5 j6 j7,Ep j0 j1 j2 j3 j4 j5 j6 j7 (eadd p q)→K (.tup []) (memL [(1,⟨false,w8 j0 j1 j2 j3 j4 j5 j6 j7⟩),(9,⟨true,w8 y0 y1 y2 y3 y4 y5 y6 y7⟩)])):
  addC z0 z1 z2 z3 y0 y1 y2 y3 fun a0 b0 c0 d0=>
  addC z4 z5 z6 z7 y4 y5 y6 y7 fun a1 b1 c1 d1=>
  K (.tup []) (memL [(1,⟨false,w8 a0 b0 c0 d0 a1 b1 c1 d1⟩),(9,⟨true,w8 y0 y1 y2 y3 y4 y5 y6 y7⟩)]):=by
 refine addC_q hp.a hq.a ?_
 intro a0 b0 c0 d0 h0
 refine addC_q hp.b hq.b ?_
 intro a1 b1 c1 d1 h1
 exact hK _ _ _ _ _ _ _ _ ⟨h0,h1,(eadd_ok _ _).1,(eadd_ok _ _).2⟩
def gAdE:G0:=fun args l K=>
 match args,l with
 | [.ptr 1 (.lit 0),.ptr 9 (.lit 0),.ptr 17 (.lit 0)],[(1,⟨false,z⟩),(9,⟨true,x⟩),(17,⟨true,y⟩)]=>c8 z fun _ _ _ _ _ _ _ _=>c8 x fun x0 x1 x2 x3 x4 x5 x6 x7=>c8 y fun y0 y1 y2 y3 y4 y5 y6 y7=>∃p q,(Ep x0 x1 x2 x3 x4 x5 x6 x7 p∧Ep y0 y1 y2 y3 y4 y5 y6 y7 q)∧∀j0 j1 j2 j3 j4 j5 j6 j7,Ep j0 j1 j2 j3 j4 j5 j6 j7 (eadd p q)→K (.tup []) (memL [(1,⟨false,w8 j0 j1 j2 j3 j4 j5 j6 j7⟩),(9,⟨true,w8 x0 x1 x2 x3 x4 x5 x6 x7⟩),(17,⟨true,w8 y0 y1 y2 y3 y4 y5 y6 y7⟩)])
 | [.ptr 1 (.lit 0),.ptr 1 (.lit 0),.ptr 9 (.lit 0)],[(1,⟨false,z⟩),(9,⟨true,y⟩)]=>c8 z fun z0 z1 z2 z3 z4 z5 z6 z7=>c8 y fun y0 y1 y2 y3 y4 y5 y6 y7=>∃p q,(Ep z0 z1 z2 z3 z4 z5 z6 z7 p∧Ep y0 y1 y2 y3 y4 y5 y6 y7 q)∧∀j0 j1 j2 j3 j4 j5 j6 j7,Ep j0 j1 j2 j3 j4 j5 j6 j7 (eadd p q)→K (.tup []) (memL [(1,⟨false,w8 j0 j1 j2 j3 j4 j5 j6 j7⟩),(9,⟨true,w8 y0 y1 y2 y3 y4 y5 y6 y7⟩)])
 | _,_=>False
theorem ade_good:Good gAdE:=by
 constructor
 ·intro args l K K' hk h
  unfold gAdE at h ⊢
  split at h
  ·exact c8_mono (fun _ _ _ _ _ _ _ _ h=>c8_mono (fun _ _ _ _ _ _ _ _ h=>c8_mono (fun _ _ _ _ _ _ _ _ h=>h.elim fun p h=>h.elim fun q h=>⟨p,q,h.1,fun j0 j1 j2 j3 j4 j5 j6 j7 e=>hk _ _ (h.2 j0 j1 j2 j3 j4 j5 j6 j7 e)⟩) h) h) h
  ·exact c8_mono (fun _ _ _ _ _ _ _ _ h=>c8_mono (fun _ _ _ _ _ _ _ _ h=>h.elim fun p h=>h.elim fun q h=>⟨p,q,h.1,fun j0 j1 j2 j3 j4 j5 j6 j7 e=>hk _ _ (h.2 j0 j1 j2 j3 j4 j5 j6 j7 e)⟩) h) h
  ·exact h.elim
 ·intro args l K h
  unfold gAdE at h
  split at h
  ·obtain ⟨_,_,_,_,_,_,_,_,_,h⟩:=c8_ex h
   obtain ⟨_,_,_,_,_,_,_,_,_,h⟩:=c8_ex h
   obtain ⟨_,_,_,_,_,_,_,_,_,h⟩:=c8_ex h
   obtain ⟨p,q,_,h⟩:=h
   obtain ⟨j0,j1,j2,j3,j4,j5,j6,j7,e⟩:=Ep.ex (eadd_ok _ _)
   exact ⟨_,_,h _ _ _ _ _ _ _ _ e⟩
  ·obtain ⟨_,_,_,_,_,_,_,_,_,h⟩:=c8_ex h
   obtain ⟨_,_,_,_,_,_,_,_,_,h⟩:=c8_ex h
   obtain ⟨p,q,_,h⟩:=h
   obtain ⟨j0,j1,j2,j3,j4,j5,j6,j7,e⟩:=Ep.ex (eadd_ok _ _)
   exact ⟨_,_,h _ _ _ _ _ _ _ _ e⟩
  ·exact h.elim
theorem ade_ok (args:List SV) (l:List (Nat×Reg)) (K:SV→Mem→Prop) (hup:KUp K) (h:gAdE args l K):∃U,execF cxAdE U Tryz.f70 64 args (memL l) K:=by
 unfold gAdE at h
 split at h
 ·obtain ⟨z0,z1,z2,z3,z4,z5,z6,z7,rfl,h0⟩:=c8_ex h
  obtain ⟨x0,x1,x2,x3,x4,x5,x6,x7,rfl,h1⟩:=c8_ex h0
  obtain ⟨y0,y1,y2,y3,y4,y5,y6,y7,rfl,h2⟩:=c8_ex h1
  obtain ⟨p,q,⟨hp,hq⟩,hK⟩:=h2
  exact ⟨u9,(vc_ade0 z0 z1 z2 z3 z4 z5 z6 z7 x0 x1 x2 x3 x4 x5 x6 x7 y0 y1 y2 y3 y4 y5 y6 y7 K).mpr (ade_walk0 hup hp hq hK)⟩
 ·obtain ⟨z0,z1,z2,z3,z4,z5,z6,z7,rfl,h0⟩:=c8_ex h
  obtain ⟨y0,y1,y2,y3,y4,y5,y6,y7,rfl,h1⟩:=c8_ex h0
  obtain ⟨p,q,⟨hp,hq⟩,hK⟩:=h1
  exact ⟨u9,(vc_ade1 z0 z1 z2 z3 z4 z5 z6 z7 y0 y1 y2 y3 y4 y5 y6 y7 K).mpr (ade_walk1 hup hp hq hK)⟩
 ·exact h.elim
def kAdE:Ef Tryz.prog:=mkE mixed 70 Tryz.func70 (by decide) (by kernel_rfl) [] [.ptr 8 false,.ptr 8 true,.ptr 8 true] gAdE ade_good ade_ok
def cxAdEw:Cx Tryz.prog:= { rds:= [],efs:= [kAdE],eqs:= [] }
theorem vc_adew0 (z0 z1 z2 z3 z4 z5 z6 z7 x0 x1 x2 x3 x4 x5 x6 x7 y0 y1 y2 y3 y4 y5 y6 y7:Int) (K:SV→Mem→Prop):execF cxAdEw u9 Tryz.f33 64 [.ptr 1 (.lit 0),.ptr 9 (.lit 0),.ptr 17 (.lit 0)] (memL [(1,⟨false,w8 z0 z1 z2 z3 z4 z5 z6 z7⟩),(9,⟨true,w8 x0 x1 x2 x3 x4 x5 x6 x7⟩),(17,⟨true,w8 y0 y1 y2 y3 y4 y5 y6 y7⟩)]) K=
 (∃p q,(Ep x0 x1 x2 x3 x4 x5 x6 x7 p∧Ep y0 y1 y2 y3 y4 y5 y6 y7 q)∧∀j0 j1 j2 j3 j4 j5 j6 j7,Ep j0 j1 j2 j3 j4 j5 j6 j7 (eadd p q)→K (.ptr 1 (.lit 0)) (memL [(1,⟨false,w8 j0 j1 j2 j3 j4 j5 j6 j7⟩),(9,⟨true,w8 x0 x1 x2 x3 x4 x5 x6 x7⟩),(17,⟨true,w8 y0 y1 y2 y3 y4 y5 y6 y7⟩)])):=by kernel_rfl
theorem vc_adew1 (z0 z1 z2 z3 z4 z5 z6 z7 y0 y1 y2 y3 y4 y5 y6 y7:Int) (K:SV→Mem→Prop):execF cxAdEw u9 Tryz.f33 64 [.ptr 1 (.lit 0),.ptr 1 (.lit 0),.ptr 9 (.lit 0)] (memL [(1,⟨false,w8 z0 z1 z2 z3 z4 z5 z6 z7⟩),(9,⟨true,w8 y0 y1 y2 y3 y4 y5 y6 y7⟩)]) K=
 (∃p q,(Ep z0 z1 z2 z3 z4 z5 z6 z7 p∧Ep y0 y1 y2 y3 y4 y5 y6 y7 q)∧∀j0 j1 j2 j3 j4 j5 j6 j7,Ep j0 j1 j2 j3 j4 j5 j6 j7 (eadd p q)→K (.ptr 1 (.lit 0)) (memL [(1,⟨false,w8 j0 j1 j2 j3 j4 j5 j6 j7⟩),(9,⟨true,w8 y0 y1 y2 y3 y4 y5 y6 y7⟩)])):=by kernel_rfl
def gAdEw:G0:=fun args l K=>
 match args,l with
 | [.ptr 1 (.lit 0),.ptr 9 (.lit 0),.ptr 17 (.lit 0)],[(1,⟨false,z⟩),(9,⟨true,x⟩),(17,⟨true,y⟩)]=>c8 z fun _ _ _ _ _ _ _ _=>c8 x fun x0 x1 x2 x3 x4 x5 x6 x7=>c8 y fun y0 y1 y2 y3 y4 y5 y6 y7=>∃p q,(Ep x0 x1 x2 x3 x4 x5 x6 x7 p∧Ep y0 y1 y2 y3 y4 y5 y6 y7 q)∧∀j0 j1 j2 j3 j4 j5 j6 j7,Ep j0 j1 j2 j3 j4 j5 j6 j7 (eadd p q)→K (.ptr 1 (.lit 0)) (memL [(1,⟨false,w8 j0 j1 j2 j3 j4 j5 j6 j7⟩),(9,⟨true,w8 x0 x1 x2 x3 x4 x5 x6 x7⟩),(17,⟨true,w8 y0 y1 y2 y3 y4 y5 y6 y7⟩)])
 | [.ptr 1 (.lit 0),.ptr 1 (.lit 0),.ptr 9 (.lit 0)],[(1,⟨false,z⟩),(9,⟨true,y⟩)]=>c8 z fun z0 z1 z2 z3 z4 z5 z6 z7=>c8 y fun y0 y1 y2 y3 y4 y5 y6 y7=>∃p q,(Ep z0 z1 z2 z3 z4 z5 z6 z7 p∧Ep y0 y1 y2 y3 y4 y5 y6 y7 q)∧∀j0 j1 j2 j3 j4 j5 j6 j7,Ep j0 j1 j2 j3 j4 j5 j6 j7 (eadd p q)→K (.ptr 1 (.lit 0)) (memL [(1,⟨false,w8 j0 j1 j2 j3 j4 j5 j6 j7⟩),(9,⟨true,w8 y0 y1 y2 y3 y4 y5 y6 y7⟩)])
 | _,_=>False
theorem adew_good:Good gAdEw:=by
 constructor
 ·intro args l K K' hk h
  unfold gAdEw at h ⊢
  split at h
  ·exact c8_mono (fun _ _ _ _ _ _ _ _ h=>c8_mono (fun _ _ _ _ _ _ _ _ h=>c8_mono (fun _ _ _ _ _ _ _ _ h=>h.elim fun p h=>h.elim fun q h=>⟨p,q,h.1,fun j0 j1 j2 j3 j4 j5 j6 j7 e=>hk _ _ (h.2 j0 j1 j2 j3 j4 j5 j6 j7 e)⟩) h) h) h
  ·exact c8_mono (fun _ _ _ _ _ _ _ _ h=>c8_mono (fun _ _ _ _ _ _ _ _ h=>h.elim fun p h=>h.elim fun q h=>⟨p,q,h.1,fun j0 j1 j2 j3 j4 j5 j6 j7 e=>hk _ _ (h.2 j0 j1 j2 j3 j4 j5 j6 j7 e)⟩) h) h
  ·exact h.elim
 ·intro args l K h
  unfold gAdEw at h
  split at h
  ·obtain ⟨_,_,_,_,_,_,_,_,_,h⟩:=c8_ex h
   obtain ⟨_,_,_,_,_,_,_,_,_,h⟩:=c8_ex h
   obtain ⟨_,_,_,_,_,_,_,_,_,h⟩:=c8_ex h
   obtain ⟨p,q,_,h⟩:=h
   obtain ⟨j0,j1,j2,j3,j4,j5,j6,j7,e⟩:=Ep.ex (eadd_ok _ _)
   exact ⟨_,_,h _ _ _ _ _ _ _ _ e⟩
  ·obtain ⟨_,_,_,_,_,_,_,_,_,h⟩:=c8_ex h
   obtain ⟨_,_,_,_,_,_,_,_,_,h⟩:=c8_ex h
   obtain ⟨p,q,_,h⟩:=h
   obtain ⟨j0,j1,j2,j3,j4,j5,j6,j7,e⟩:=Ep.ex (eadd_ok _ _)
   exact ⟨_,_,h _ _ _ _ _ _ _ _ e⟩
  ·exact h.elim
theorem adew_ok (args:List SV) (l:List (Nat×Reg)) (K:SV→Mem→Prop) (hup:KUp K) (h:gAdEw args l K):∃U,execF cxAdEw U Tryz.f33 64 args (memL l) K:=by
 unfold gAdEw at h
 split at h
 ·obtain ⟨z0,z1,z2,z3,z4,z5,z6,z7,rfl,h0⟩:=c8_ex h
  obtain ⟨x0,x1,x2,x3,x4,x5,x6,x7,rfl,h1⟩:=c8_ex h0
  obtain ⟨y0,y1,y2,y3,y4,y5,y6,y7,rfl,h2⟩:=c8_ex h1
  exact ⟨u9,(vc_adew0 z0 z1 z2 z3 z4 z5 z6 z7 x0 x1 x2 x3 x4 x5 x6 x7 y0 y1 y2 y3 y4 y5 y6 y7 K).mpr h2⟩
 ·obtain ⟨z0,z1,z2,z3,z4,z5,z6,z7,rfl,h0⟩:=c8_ex h
  obtain ⟨y0,y1,y2,y3,y4,y5,y6,y7,rfl,h1⟩:=c8_ex h0
  exact ⟨u9,(vc_adew1 z0 z1 z2 z3 z4 z5 z6 z7 y0 y1 y2 y3 y4 y5 y6 y7 K).mpr h1⟩
 ·exact h.elim
def kAdEw:Ef Tryz.prog:=mkE mixed 33 Tryz.func33 (by decide) (by kernel_rfl) [] [.ptr 8 false,.ptr 8 true,.ptr 8 true] gAdEw adew_good adew_ok
def cxSbE:Cx Tryz.prog:= { rds:= [],efs:= [kSubA],eqs:= [] }
theorem vc_sbe0 (z0 z1 z2 z3 z4 z5 z6 z7 x0 x1 x2 x3 x4 x5 x6 x7 y0 y1 y2 y3 y4 y5 y6 y7:Int) (K:SV→Mem→Prop):execF cxSbE u9 Tryz.f71 64 [.ptr 1 (.lit 0),.ptr 9 (.lit 0),.ptr 17 (.lit 0)] (memL [(1,⟨false,w8 z0 z1 z2 z3 z4 z5 z6 z7⟩),(9,⟨true,w8 x0 x1 x2 x3 x4 x5 x6 x7⟩),(17,⟨true,w8 y0 y1 y2 y3 y4 y5 y6 y7⟩)]) K=
 (subC x0 x1 x2 x3 y0 y1 y2 y3 fun a0 b0 c0 d0=>
 subC x4 x5 x6 x7 y4 y5 y6 y7 fun a1 b1 c1 d1=>
 K (.tup []) (memL [(1,⟨false,w8 a0 b0 c0 d0 a1 b1 c1 d1⟩),(9,⟨true,w8 x0 x1 x2 x3 x4 x5 x6 x7⟩),(17,⟨true,w8 y0 y1 y2 y3 y4 y5 y6 y7⟩)])):=by kernel_rfl
theorem sbe_walk0 {x0 x1 x2 x3 x4 x5 x6 x7 y0 y1 y2 y3 y4 y5 y6 y7:Int} {p q:F2} {K:SV→Mem→Prop} (hup:KUp K) (hp:Ep x0 x1 x2 x3 x4 x5 x6 x7 p) (hq:Ep y0 y1 y2 y3 y4 y5 y6 y7 q) (hK:∀j0 j1 j2 j3 j4 j5 j6 j7,Ep j0 j1 j2 j3 j4 j5 j6 j7 (esub p q)→K (.tup []) (memL [(1,⟨false,w8 j0 j1 j2 j3 j4 j5 j6 j7⟩),(9,⟨true,w8 x0 x1 x2 x3 x4 x5 x6 x7⟩),(17,⟨true,w8 y0 y1 y2 y3 y4 y5 y6 y7⟩)])):
  subC x0 x1 x2 x3 y0 y1 y2 y3 fun a0 b0 c0 d0=>
  subC x4 x5 x6 x7 y4 y5 y6 y7 fun a1 b1 c1 d1=>
  K (.tup []) (memL [(1,⟨false,w8 a0 b0 c0 d0 a1 b1 c1 d1⟩),(9,⟨true,w8 x0 x1 x2 x3 x4 x5 x6 x7⟩),(17,⟨true,w8 y0 y1 y2 y3 y4 y5 y6 y7⟩)]):=by
 refine subC_q hp.a hq.a (hq.la) ?_
 intro a0 b0 c0 d0 h0
 refine subC_q hp.b hq.b (hq.lb) ?_
 intro a1 b1 c1 d1 h1
 exact hK _ _ _ _ _ _ _ _ ⟨h0,h1,(esub_ok _ _).1,(esub_ok _ _).2⟩
theorem vc_sbe1 (z0 z1 z2 z3 z4 z5 z6 z7 x0 x1 x2 x3 x4 x5 x6 x7:Int) (K:SV→Mem→Prop):execF cxSbE u9 Tryz.f71 64 [.ptr 1 (.lit 0),.ptr 9 (.lit 0),.ptr 1 (.lit 0)] (memL [(1,⟨false,w8 z0 z1 z2 z3 z4 z5 z6 z7⟩),(9,⟨true,w8 x0 x1 x2 x3 x4 x5 x6 x7⟩)]) K=
 (subC x0 x1 x2 x3 z0 z1 z2 z3 fun a0 b0 c0 d0=>
 subC x4 x5 x6 x7 z4 z5 z6 z7 fun a1 b1 c1 d1=>
 K (.tup []) (memL [(1,⟨false,w8 a0 b0 c0 d0 a1 b1 c1 d1⟩),(9,⟨true,w8 x0 x1 x2 x3 x4 x5 x6 x7⟩)])):=by kernel_rfl
theorem sbe_walk1 {z0 z1 z2 z3 z4 z5 z6 z7 x0 x1 x2 x3 x4 x5 x6 x7:Int} {q p:F2} {K:SV→Mem→Prop} (hup:KUp K) (hq:Ep z0 z1 z2 z3 z4 z5 z6 z7 q) (hp:Ep x0 x1 x2 x3 x4 x5 x6 x7 p) (hK:∀j0 j1 j2 j3 j4 j5 j6 j7,Ep j0 j1 j2 j3 j4 j5 j6 j7 (esub p q)→K (.tup []) (memL [(1,⟨false,w8 j0 j1 j2 j3 j4 j5 j6 j7⟩),(9,⟨true,w8 x0 x1 x2 x3 x4 x5 x6 x7⟩)])):
  subC x0 x1 x2 x3 z0 z1 z2 z3 fun a0 b0 c0 d0=>
  subC x4 x5 x6 x7 z4 z5 z6 z7 fun a1 b1 c1 d1=>
  K (.tup []) (memL [(1,⟨false,w8 a0 b0 c0 d0 a1 b1 c1 d1⟩),(9,⟨true,w8 x0 x1 x2 x3 x4 x5 x6 x7⟩)]):=by
 refine subC_q hp.a hq.a (hq.la) ?_
 intro a0 b0 c0 d0 h0
 refine subC_q hp.b hq.b (hq.lb) ?_
 intro a1 b1 c1 d1 h1
 exact hK _ _ _ _ _ _ _ _ ⟨h0,h1,(esub_ok _ _).1,(esub_ok _ _).2⟩
def gSbE:G0:=fun args l K=>
 match args,l with
 | [.ptr 1 (.lit 0),.ptr 9 (.lit 0),.ptr 17 (.lit 0)],[(1,⟨false,z⟩),(9,⟨true,x⟩),(17,⟨true,y⟩)]=>c8 z fun _ _ _ _ _ _ _ _=>c8 x fun x0 x1 x2 x3 x4 x5 x6 x7=>c8 y fun y0 y1 y2 y3 y4 y5 y6 y7=>∃p q,(Ep x0 x1 x2 x3 x4 x5 x6 x7 p∧Ep y0 y1 y2 y3 y4 y5 y6 y7 q)∧∀j0 j1 j2 j3 j4 j5 j6 j7,Ep j0 j1 j2 j3 j4 j5 j6 j7 (esub p q)→K (.tup []) (memL [(1,⟨false,w8 j0 j1 j2 j3 j4 j5 j6 j7⟩),(9,⟨true,w8 x0 x1 x2 x3 x4 x5 x6 x7⟩),(17,⟨true,w8 y0 y1 y2 y3 y4 y5 y6 y7⟩)])
 | [.ptr 1 (.lit 0),.ptr 9 (.lit 0),.ptr 1 (.lit 0)],[(1,⟨false,z⟩),(9,⟨true,x⟩)]=>c8 z fun z0 z1 z2 z3 z4 z5 z6 z7=>c8 x fun x0 x1 x2 x3 x4 x5 x6 x7=>∃q p,(Ep z0 z1 z2 z3 z4 z5 z6 z7 q∧Ep x0 x1 x2 x3 x4 x5 x6 x7 p)∧∀j0 j1 j2 j3 j4 j5 j6 j7,Ep j0 j1 j2 j3 j4 j5 j6 j7 (esub p q)→K (.tup []) (memL [(1,⟨false,w8 j0 j1 j2 j3 j4 j5 j6 j7⟩),(9,⟨true,w8 x0 x1 x2 x3 x4 x5 x6 x7⟩)])
 | _,_=>False
theorem sbe_good:Good gSbE:=by
 constructor
 ·intro args l K K' hk h
  unfold gSbE at h ⊢
  split at h
  ·exact c8_mono (fun _ _ _ _ _ _ _ _ h=>c8_mono (fun _ _ _ _ _ _ _ _ h=>c8_mono (fun _ _ _ _ _ _ _ _ h=>h.elim fun p h=>h.elim fun q h=>⟨p,q,h.1,fun j0 j1 j2 j3 j4 j5 j6 j7 e=>hk _ _ (h.2 j0 j1 j2 j3 j4 j5 j6 j7 e)⟩) h) h) h
  ·exact c8_mono (fun _ _ _ _ _ _ _ _ h=>c8_mono (fun _ _ _ _ _ _ _ _ h=>h.elim fun q h=>h.elim fun p h=>⟨q,p,h.1,fun j0 j1 j2 j3 j4 j5 j6 j7 e=>hk _ _ (h.2 j0 j1 j2 j3 j4 j5 j6 j7 e)⟩) h) h
  ·exact h.elim
 ·intro args l K h
  unfold gSbE at h
  split at h
  ·obtain ⟨_,_,_,_,_,_,_,_,_,h⟩:=c8_ex h
   obtain ⟨_,_,_,_,_,_,_,_,_,h⟩:=c8_ex h
   obtain ⟨_,_,_,_,_,_,_,_,_,h⟩:=c8_ex h
   obtain ⟨p,q,_,h⟩:=h
   obtain ⟨j0,j1,j2,j3,j4,j5,j6,j7,e⟩:=Ep.ex (esub_ok _ _)
   exact ⟨_,_,h _ _ _ _ _ _ _ _ e⟩
  ·obtain ⟨_,_,_,_,_,_,_,_,_,h⟩:=c8_ex h
   obtain ⟨_,_,_,_,_,_,_,_,_,h⟩:=c8_ex h
   obtain ⟨q,p,_,h⟩:=h
   obtain ⟨j0,j1,j2,j3,j4,j5,j6,j7,e⟩:=Ep.ex (esub_ok _ _)
   exact ⟨_,_,h _ _ _ _ _ _ _ _ e⟩
  ·exact h.elim
theorem sbe_ok (args:List SV) (l:List (Nat×Reg)) (K:SV→Mem→Prop) (hup:KUp K) (h:gSbE args l K):∃U,execF cxSbE U Tryz.f71 64 args (memL l) K:=by
 unfold gSbE at h
 split at h
 ·obtain ⟨z0,z1,z2,z3,z4,z5,z6,z7,rfl,h0⟩:=c8_ex h
  obtain ⟨x0,x1,x2,x3,x4,x5,x6,x7,rfl,h1⟩:=c8_ex h0
  obtain ⟨y0,y1,y2,y3,y4,y5,y6,y7,rfl,h2⟩:=c8_ex h1
  obtain ⟨p,q,⟨hp,hq⟩,hK⟩:=h2
  exact ⟨u9,(vc_sbe0 z0 z1 z2 z3 z4 z5 z6 z7 x0 x1 x2 x3 x4 x5 x6 x7 y0 y1 y2 y3 y4 y5 y6 y7 K).mpr (sbe_walk0 hup hp hq hK)⟩
 ·obtain ⟨z0,z1,z2,z3,z4,z5,z6,z7,rfl,h0⟩:=c8_ex h
  obtain ⟨x0,x1,x2,x3,x4,x5,x6,x7,rfl,h1⟩:=c8_ex h0
  obtain ⟨q,p,⟨hq,hp⟩,hK⟩:=h1
  exact ⟨u9,(vc_sbe1 z0 z1 z2 z3 z4 z5 z6 z7 x0 x1 x2 x3 x4 x5 x6 x7 K).mpr (sbe_walk1 hup hq hp hK)⟩
 ·exact h.elim
def kSbE:Ef Tryz.prog:=mkE mixed 71 Tryz.func71 (by decide) (by kernel_rfl) [] [.ptr 8 false,.ptr 8 true,.ptr 8 true] gSbE sbe_good sbe_ok
def cxSbEw:Cx Tryz.prog:= { rds:= [],efs:= [kSbE],eqs:= [] }
theorem vc_sbew0 (z0 z1 z2 z3 z4 z5 z6 z7 x0 x1 x2 x3 x4 x5 x6 x7 y0 y1 y2 y3 y4 y5 y6 y7:Int) (K:SV→Mem→Prop):execF cxSbEw u9 Tryz.f34 64 [.ptr 1 (.lit 0),.ptr 9 (.lit 0),.ptr 17 (.lit 0)] (memL [(1,⟨false,w8 z0 z1 z2 z3 z4 z5 z6 z7⟩),(9,⟨true,w8 x0 x1 x2 x3 x4 x5 x6 x7⟩),(17,⟨true,w8 y0 y1 y2 y3 y4 y5 y6 y7⟩)]) K=
 (∃p q,(Ep x0 x1 x2 x3 x4 x5 x6 x7 p∧Ep y0 y1 y2 y3 y4 y5 y6 y7 q)∧∀j0 j1 j2 j3 j4 j5 j6 j7,Ep j0 j1 j2 j3 j4 j5 j6 j7 (esub p q)→K (.ptr 1 (.lit 0)) (memL [(1,⟨false,w8 j0 j1 j2 j3 j4 j5 j6 j7⟩),(9,⟨true,w8 x0 x1 x2 x3 x4 x5 x6 x7⟩),(17,⟨true,w8 y0 y1 y2 y3 y4 y5 y6 y7⟩)])):=by kernel_rfl
theorem vc_sbew1 (z0 z1 z2 z3 z4 z5 z6 z7 x0 x1 x2 x3 x4 x5 x6 x7:Int) (K:SV→Mem→Prop):execF cxSbEw u9 Tryz.f34 64 [.ptr 1 (.lit 0),.ptr 9 (.lit 0),.ptr 1 (.lit 0)] (memL [(1,⟨false,w8 z0 z1 z2 z3 z4 z5 z6 z7⟩),(9,⟨true,w8 x0 x1 x2 x3 x4 x5 x6 x7⟩)]) K=
 (∃q p,(Ep z0 z1 z2 z3 z4 z5 z6 z7 q∧Ep x0 x1 x2 x3 x4 x5 x6 x7 p)∧∀j0 j1 j2 j3 j4 j5 j6 j7,Ep j0 j1 j2 j3 j4 j5 j6 j7 (esub p q)→K (.ptr 1 (.lit 0)) (memL [(1,⟨false,w8 j0 j1 j2 j3 j4 j5 j6 j7⟩),(9,⟨true,w8 x0 x1 x2 x3 x4 x5 x6 x7⟩)])):=by kernel_rfl
def gSbEw:G0:=fun args l K=>
 match args,l with
 | [.ptr 1 (.lit 0),.ptr 9 (.lit 0),.ptr 17 (.lit 0)],[(1,⟨false,z⟩),(9,⟨true,x⟩),(17,⟨true,y⟩)]=>c8 z fun _ _ _ _ _ _ _ _=>c8 x fun x0 x1 x2 x3 x4 x5 x6 x7=>c8 y fun y0 y1 y2 y3 y4 y5 y6 y7=>∃p q,(Ep x0 x1 x2 x3 x4 x5 x6 x7 p∧Ep y0 y1 y2 y3 y4 y5 y6 y7 q)∧∀j0 j1 j2 j3 j4 j5 j6 j7,Ep j0 j1 j2 j3 j4 j5 j6 j7 (esub p q)→K (.ptr 1 (.lit 0)) (memL [(1,⟨false,w8 j0 j1 j2 j3 j4 j5 j6 j7⟩),(9,⟨true,w8 x0 x1 x2 x3 x4 x5 x6 x7⟩),(17,⟨true,w8 y0 y1 y2 y3 y4 y5 y6 y7⟩)])
 | [.ptr 1 (.lit 0),.ptr 9 (.lit 0),.ptr 1 (.lit 0)],[(1,⟨false,z⟩),(9,⟨true,x⟩)]=>c8 z fun z0 z1 z2 z3 z4 z5 z6 z7=>c8 x fun x0 x1 x2 x3 x4 x5 x6 x7=>∃q p,(Ep z0 z1 z2 z3 z4 z5 z6 z7 q∧Ep x0 x1 x2 x3 x4 x5 x6 x7 p)∧∀j0 j1 j2 j3 j4 j5 j6 j7,Ep j0 j1 j2 j3 j4 j5 j6 j7 (esub p q)→K (.ptr 1 (.lit 0)) (memL [(1,⟨false,w8 j0 j1 j2 j3 j4 j5 j6 j7⟩),(9,⟨true,w8 x0 x1 x2 x3 x4 x5 x6 x7⟩)])
 | _,_=>False
theorem sbew_good:Good gSbEw:=by
 constructor
 ·intro args l K K' hk h
  unfold gSbEw at h ⊢
  split at h
  ·exact c8_mono (fun _ _ _ _ _ _ _ _ h=>c8_mono (fun _ _ _ _ _ _ _ _ h=>c8_mono (fun _ _ _ _ _ _ _ _ h=>h.elim fun p h=>h.elim fun q h=>⟨p,q,h.1,fun j0 j1 j2 j3 j4 j5 j6 j7 e=>hk _ _ (h.2 j0 j1 j2 j3 j4 j5 j6 j7 e)⟩) h) h) h
  ·exact c8_mono (fun _ _ _ _ _ _ _ _ h=>c8_mono (fun _ _ _ _ _ _ _ _ h=>h.elim fun q h=>h.elim fun p h=>⟨q,p,h.1,fun j0 j1 j2 j3 j4 j5 j6 j7 e=>hk _ _ (h.2 j0 j1 j2 j3 j4 j5 j6 j7 e)⟩) h) h
  ·exact h.elim
 ·intro args l K h
  unfold gSbEw at h
  split at h
  ·obtain ⟨_,_,_,_,_,_,_,_,_,h⟩:=c8_ex h
   obtain ⟨_,_,_,_,_,_,_,_,_,h⟩:=c8_ex h
   obtain ⟨_,_,_,_,_,_,_,_,_,h⟩:=c8_ex h
   obtain ⟨p,q,_,h⟩:=h
   obtain ⟨j0,j1,j2,j3,j4,j5,j6,j7,e⟩:=Ep.ex (esub_ok _ _)
   exact ⟨_,_,h _ _ _ _ _ _ _ _ e⟩
  ·obtain ⟨_,_,_,_,_,_,_,_,_,h⟩:=c8_ex h
   obtain ⟨_,_,_,_,_,_,_,_,_,h⟩:=c8_ex h
   obtain ⟨q,p,_,h⟩:=h
   obtain ⟨j0,j1,j2,j3,j4,j5,j6,j7,e⟩:=Ep.ex (esub_ok _ _)
   exact ⟨_,_,h _ _ _ _ _ _ _ _ e⟩
  ·exact h.elim
theorem sbew_ok (args:List SV) (l:List (Nat×Reg)) (K:SV→Mem→Prop) (hup:KUp K) (h:gSbEw args l K):∃U,execF cxSbEw U Tryz.f34 64 args (memL l) K:=by
 unfold gSbEw at h
 split at h
 ·obtain ⟨z0,z1,z2,z3,z4,z5,z6,z7,rfl,h0⟩:=c8_ex h
  obtain ⟨x0,x1,x2,x3,x4,x5,x6,x7,rfl,h1⟩:=c8_ex h0
  obtain ⟨y0,y1,y2,y3,y4,y5,y6,y7,rfl,h2⟩:=c8_ex h1
  exact ⟨u9,(vc_sbew0 z0 z1 z2 z3 z4 z5 z6 z7 x0 x1 x2 x3 x4 x5 x6 x7 y0 y1 y2 y3 y4 y5 y6 y7 K).mpr h2⟩
 ·obtain ⟨z0,z1,z2,z3,z4,z5,z6,z7,rfl,h0⟩:=c8_ex h
  obtain ⟨x0,x1,x2,x3,x4,x5,x6,x7,rfl,h1⟩:=c8_ex h0
  exact ⟨u9,(vc_sbew1 z0 z1 z2 z3 z4 z5 z6 z7 x0 x1 x2 x3 x4 x5 x6 x7 K).mpr h1⟩
 ·exact h.elim
def kSbEw:Ef Tryz.prog:=mkE mixed 34 Tryz.func34 (by decide) (by kernel_rfl) [] [.ptr 8 false,.ptr 8 true,.ptr 8 true] gSbEw sbew_good sbew_ok
def cxNgE:Cx Tryz.prog:= { rds:= [],efs:= [kNeg],eqs:= [] }
theorem vc_nge0 (z0 z1 z2 z3 z4 z5 z6 z7 x0 x1 x2 x3 x4 x5 x6 x7:Int) (K:SV→Mem→Prop):execF cxNgE u9 Tryz.f92 64 [.ptr 1 (.lit 0),.ptr 9 (.lit 0)] (memL [(1,⟨false,w8 z0 z1 z2 z3 z4 z5 z6 z7⟩),(9,⟨true,w8 x0 x1 x2 x3 x4 x5 x6 x7⟩)]) K=
 (ngC x0 x1 x2 x3 fun a0 b0 c0 d0=>
 ngC x4 x5 x6 x7 fun a1 b1 c1 d1=>
 K (.tup []) (memL [(1,⟨false,w8 a0 b0 c0 d0 a1 b1 c1 d1⟩),(9,⟨true,w8 x0 x1 x2 x3 x4 x5 x6 x7⟩)])):=by kernel_rfl
theorem nge_walk0 {x0 x1 x2 x3 x4 x5 x6 x7:Int} {p:F2} {K:SV→Mem→Prop} (hup:KUp K) (hp:Ep x0 x1 x2 x3 x4 x5 x6 x7 p) (hK:∀j0 j1 j2 j3 j4 j5 j6 j7,Ep j0 j1 j2 j3 j4 j5 j6 j7 (eneg p)→K (.tup []) (memL [(1,⟨false,w8 j0 j1 j2 j3 j4 j5 j6 j7⟩),(9,⟨true,w8 x0 x1 x2 x3 x4 x5 x6 x7⟩)])):
  ngC x0 x1 x2 x3 fun a0 b0 c0 d0=>
  ngC x4 x5 x6 x7 fun a1 b1 c1 d1=>
  K (.tup []) (memL [(1,⟨false,w8 a0 b0 c0 d0 a1 b1 c1 d1⟩),(9,⟨true,w8 x0 x1 x2 x3 x4 x5 x6 x7⟩)]):=by
 refine ngC_q hp.a (hp.la) ?_
 intro a0 b0 c0 d0 h0
 refine ngC_q hp.b (hp.lb) ?_
 intro a1 b1 c1 d1 h1
 exact hK _ _ _ _ _ _ _ _ ⟨h0,h1,(eneg_ok _).1,(eneg_ok _).2⟩
def gNgE:G0:=fun args l K=>
 match args,l with
 | [.ptr 1 (.lit 0),.ptr 9 (.lit 0)],[(1,⟨false,z⟩),(9,⟨true,x⟩)]=>c8 z fun _ _ _ _ _ _ _ _=>c8 x fun x0 x1 x2 x3 x4 x5 x6 x7=>∃p,Ep x0 x1 x2 x3 x4 x5 x6 x7 p∧∀j0 j1 j2 j3 j4 j5 j6 j7,Ep j0 j1 j2 j3 j4 j5 j6 j7 (eneg p)→K (.tup []) (memL [(1,⟨false,w8 j0 j1 j2 j3 j4 j5 j6 j7⟩),(9,⟨true,w8 x0 x1 x2 x3 x4 x5 x6 x7⟩)])
 | _,_=>False
theorem nge_good:Good gNgE:=by
 constructor
 ·intro args l K K' hk h
  unfold gNgE at h ⊢
  split at h
  ·exact c8_mono (fun _ _ _ _ _ _ _ _ h=>c8_mono (fun _ _ _ _ _ _ _ _ h=>h.elim fun p h=>⟨p,h.1,fun j0 j1 j2 j3 j4 j5 j6 j7 e=>hk _ _ (h.2 j0 j1 j2 j3 j4 j5 j6 j7 e)⟩) h) h
  ·exact h.elim
 ·intro args l K h
  unfold gNgE at h
  split at h
  ·obtain ⟨_,_,_,_,_,_,_,_,_,h⟩:=c8_ex h
   obtain ⟨_,_,_,_,_,_,_,_,_,h⟩:=c8_ex h
   obtain ⟨p,_,h⟩:=h
   obtain ⟨j0,j1,j2,j3,j4,j5,j6,j7,e⟩:=Ep.ex (eneg_ok _)
   exact ⟨_,_,h _ _ _ _ _ _ _ _ e⟩
  ·exact h.elim
theorem nge_ok (args:List SV) (l:List (Nat×Reg)) (K:SV→Mem→Prop) (hup:KUp K) (h:gNgE args l K):∃U,execF cxNgE U Tryz.f92 64 args (memL l) K:=by
 unfold gNgE at h
 split at h
 ·obtain ⟨z0,z1,z2,z3,z4,z5,z6,z7,rfl,h0⟩:=c8_ex h
  obtain ⟨x0,x1,x2,x3,x4,x5,x6,x7,rfl,h1⟩:=c8_ex h0
  obtain ⟨p,hp,hK⟩:=h1
  exact ⟨u9,(vc_nge0 z0 z1 z2 z3 z4 z5 z6 z7 x0 x1 x2 x3 x4 x5 x6 x7 K).mpr (nge_walk0 hup hp hK)⟩
 ·exact h.elim
def kNgE:Ef Tryz.prog:=mkE mixed 92 Tryz.func92 (by decide) (by kernel_rfl) [] [.ptr 8 false,.ptr 8 true] gNgE nge_good nge_ok
def cxNgEw:Cx Tryz.prog:= { rds:= [],efs:= [kNgE],eqs:= [] }
theorem vc_ngew0 (z0 z1 z2 z3 z4 z5 z6 z7 x0 x1 x2 x3 x4 x5 x6 x7:Int) (K:SV→Mem→Prop):execF cxNgEw u9 Tryz.f41 64 [.ptr 1 (.lit 0),.ptr 9 (.lit 0)] (memL [(1,⟨false,w8 z0 z1 z2 z3 z4 z5 z6 z7⟩),(9,⟨true,w8 x0 x1 x2 x3 x4 x5 x6 x7⟩)]) K=
 (∃p,Ep x0 x1 x2 x3 x4 x5 x6 x7 p∧∀j0 j1 j2 j3 j4 j5 j6 j7,Ep j0 j1 j2 j3 j4 j5 j6 j7 (eneg p)→K (.ptr 1 (.lit 0)) (memL [(1,⟨false,w8 j0 j1 j2 j3 j4 j5 j6 j7⟩),(9,⟨true,w8 x0 x1 x2 x3 x4 x5 x6 x7⟩)])):=by kernel_rfl
def gNgEw:G0:=fun args l K=>
 match args,l with
 | [.ptr 1 (.lit 0),.ptr 9 (.lit 0)],[(1,⟨false,z⟩),(9,⟨true,x⟩)]=>c8 z fun _ _ _ _ _ _ _ _=>c8 x fun x0 x1 x2 x3 x4 x5 x6 x7=>∃p,Ep x0 x1 x2 x3 x4 x5 x6 x7 p∧∀j0 j1 j2 j3 j4 j5 j6 j7,Ep j0 j1 j2 j3 j4 j5 j6 j7 (eneg p)→K (.ptr 1 (.lit 0)) (memL [(1,⟨false,w8 j0 j1 j2 j3 j4 j5 j6 j7⟩),(9,⟨true,w8 x0 x1 x2 x3 x4 x5 x6 x7⟩)])
 | _,_=>False
theorem ngew_good:Good gNgEw:=by
 constructor
 ·intro args l K K' hk h
  unfold gNgEw at h ⊢
  split at h
  ·exact c8_mono (fun _ _ _ _ _ _ _ _ h=>c8_mono (fun _ _ _ _ _ _ _ _ h=>h.elim fun p h=>⟨p,h.1,fun j0 j1 j2 j3 j4 j5 j6 j7 e=>hk _ _ (h.2 j0 j1 j2 j3 j4 j5 j6 j7 e)⟩) h) h
  ·exact h.elim
 ·intro args l K h
  unfold gNgEw at h
  split at h
  ·obtain ⟨_,_,_,_,_,_,_,_,_,h⟩:=c8_ex h
   obtain ⟨_,_,_,_,_,_,_,_,_,h⟩:=c8_ex h
   obtain ⟨p,_,h⟩:=h
   obtain ⟨j0,j1,j2,j3,j4,j5,j6,j7,e⟩:=Ep.ex (eneg_ok _)
   exact ⟨_,_,h _ _ _ _ _ _ _ _ e⟩
  ·exact h.elim
theorem ngew_ok (args:List SV) (l:List (Nat×Reg)) (K:SV→Mem→Prop) (hup:KUp K) (h:gNgEw args l K):∃U,execF cxNgEw U Tryz.f41 64 args (memL l) K:=by
 unfold gNgEw at h
 split at h
 ·obtain ⟨z0,z1,z2,z3,z4,z5,z6,z7,rfl,h0⟩:=c8_ex h
  obtain ⟨x0,x1,x2,x3,x4,x5,x6,x7,rfl,h1⟩:=c8_ex h0
  exact ⟨u9,(vc_ngew0 z0 z1 z2 z3 z4 z5 z6 z7 x0 x1 x2 x3 x4 x5 x6 x7 K).mpr h1⟩
 ·exact h.elim
def kNgEw:Ef Tryz.prog:=mkE mixed 41 Tryz.func41 (by decide) (by kernel_rfl) [] [.ptr 8 false,.ptr 8 true] gNgEw ngew_good ngew_ok
def cxMlE:Cx Tryz.prog:= { rds:= [],efs:= [kAddA,kSubA,kMulA],eqs:= [] }
theorem vc_mle0 (z0 z1 z2 z3 z4 z5 z6 z7 x0 x1 x2 x3 x4 x5 x6 x7 y0 y1 y2 y3 y4 y5 y6 y7:Int) (K:SV→Mem→Prop):execF cxMlE u9 Tryz.f69 64 [.ptr 1 (.lit 0),.ptr 9 (.lit 0),.ptr 17 (.lit 0)] (memL [(1,⟨false,w8 z0 z1 z2 z3 z4 z5 z6 z7⟩),(9,⟨true,w8 x0 x1 x2 x3 x4 x5 x6 x7⟩),(17,⟨true,w8 y0 y1 y2 y3 y4 y5 y6 y7⟩)]) K=
 (addC x0 x1 x2 x3 x4 x5 x6 x7 fun a0 b0 c0 d0=>
 addC y0 y1 y2 y3 y4 y5 y6 y7 fun a1 b1 c1 d1=>
 mulC a0 b0 c0 d0 a1 b1 c1 d1 fun a2 b2 c2 d2=>
 mulC x0 x1 x2 x3 y0 y1 y2 y3 fun a3 b3 c3 d3=>
 mulC x4 x5 x6 x7 y4 y5 y6 y7 fun a4 b4 c4 d4=>
 subC a2 b2 c2 d2 a3 b3 c3 d3 fun a5 b5 c5 d5=>
 subC a5 b5 c5 d5 a4 b4 c4 d4 fun a6 b6 c6 d6=>
 subC a3 b3 c3 d3 a4 b4 c4 d4 fun a7 b7 c7 d7=>
 K (.tup []) (memL [(1,⟨false,w8 a7 b7 c7 d7 a6 b6 c6 d6⟩),(9,⟨true,w8 x0 x1 x2 x3 x4 x5 x6 x7⟩),(17,⟨true,w8 y0 y1 y2 y3 y4 y5 y6 y7⟩),(513,⟨false,w4 a2 b2 c2 d2⟩),(521,⟨false,w4 a3 b3 c3 d3⟩),(529,⟨false,w4 a4 b4 c4 d4⟩)])):=by kernel_rfl
theorem mle_walk0 {x0 x1 x2 x3 x4 x5 x6 x7 y0 y1 y2 y3 y4 y5 y6 y7:Int} {p q:F2} {K:SV→Mem→Prop} (hup:KUp K) (hp:Ep x0 x1 x2 x3 x4 x5 x6 x7 p) (hq:Ep y0 y1 y2 y3 y4 y5 y6 y7 q) (hK:∀j0 j1 j2 j3 j4 j5 j6 j7,Ep j0 j1 j2 j3 j4 j5 j6 j7 (emul p q)→K (.tup []) (memL [(1,⟨false,w8 j0 j1 j2 j3 j4 j5 j6 j7⟩),(9,⟨true,w8 x0 x1 x2 x3 x4 x5 x6 x7⟩),(17,⟨true,w8 y0 y1 y2 y3 y4 y5 y6 y7⟩)])):
  addC x0 x1 x2 x3 x4 x5 x6 x7 fun a0 b0 c0 d0=>
  addC y0 y1 y2 y3 y4 y5 y6 y7 fun a1 b1 c1 d1=>
  mulC a0 b0 c0 d0 a1 b1 c1 d1 fun a2 b2 c2 d2=>
  mulC x0 x1 x2 x3 y0 y1 y2 y3 fun a3 b3 c3 d3=>
  mulC x4 x5 x6 x7 y4 y5 y6 y7 fun a4 b4 c4 d4=>
  subC a2 b2 c2 d2 a3 b3 c3 d3 fun a5 b5 c5 d5=>
  subC a5 b5 c5 d5 a4 b4 c4 d4 fun a6 b6 c6 d6=>
  subC a3 b3 c3 d3 a4 b4 c4 d4 fun a7 b7 c7 d7=>
  K (.tup []) (memL [(1,⟨false,w8 a7 b7 c7 d7 a6 b6 c6 d6⟩),(9,⟨true,w8 x0 x1 x2 x3 x4 x5 x6 x7⟩),(17,⟨true,w8 y0 y1 y2 y3 y4 y5 y6 y7⟩),(513,⟨false,w4 a2 b2 c2 d2⟩),(521,⟨false,w4 a3 b3 c3 d3⟩),(529,⟨false,w4 a4 b4 c4 d4⟩)]):=by
 refine addC_q hp.a hp.b ?_
 intro a0 b0 c0 d0 h0
 refine addC_q hq.a hq.b ?_
 intro a1 b1 c1 d1 h1
 refine mulC_q h0 h1 ?_
 intro a2 b2 c2 d2 h2
 refine mulC_q hp.a hq.a ?_
 intro a3 b3 c3 d3 h3
 refine mulC_q hp.b hq.b ?_
 intro a4 b4 c4 d4 h4
 refine subC_q h2 h3 (mq_lt _ _) ?_
 intro a5 b5 c5 d5 h5
 refine subC_q h5 h4 (mq_lt _ _) ?_
 intro a6 b6 c6 d6 h6
 refine subC_q h3 h4 (mq_lt _ _) ?_
 intro a7 b7 c7 d7 h7
 rw[kar_b]at h6
 exact hup.le (memL_sub [1,9,17,513,521,529] rfl (by decide) (by
  intro x hx
  simp only[List.mem_cons,List.not_mem_nil,or_false]at hx ⊢
  rcases hx with rfl | rfl | rfl<;>simp)) (hK _ _ _ _ _ _ _ _ ⟨h7,h6,(emul_ok _ _).1,(emul_ok _ _).2⟩)
theorem vc_mle1 (z0 z1 z2 z3 z4 z5 z6 z7 y0 y1 y2 y3 y4 y5 y6 y7:Int) (K:SV→Mem→Prop):execF cxMlE u9 Tryz.f69 64 [.ptr 1 (.lit 0),.ptr 1 (.lit 0),.ptr 9 (.lit 0)] (memL [(1,⟨false,w8 z0 z1 z2 z3 z4 z5 z6 z7⟩),(9,⟨true,w8 y0 y1 y2 y3 y4 y5 y6 y7⟩)]) K=
 (addC z0 z1 z2 z3 z4 z5 z6 z7 fun a0 b0 c0 d0=>
 addC y0 y1 y2 y3 y4 y5 y6 y7 fun a1 b1 c1 d1=>
 mulC a0 b0 c0 d0 a1 b1 c1 d1 fun a2 b2 c2 d2=>
 mulC z0 z1 z2 z3 y0 y1 y2 y3 fun a3 b3 c3 d3=>
 mulC z4 z5 z6 z7 y4 y5 y6 y7 fun a4 b4 c4 d4=>
 subC a2 b2 c2 d2 a3 b3 c3 d3 fun a5 b5 c5 d5=>
 subC a5 b5 c5 d5 a4 b4 c4 d4 fun a6 b6 c6 d6=>
 subC a3 b3 c3 d3 a4 b4 c4 d4 fun a7 b7 c7 d7=>
 K (.tup []) (memL [(1,⟨false,w8 a7 b7 c7 d7 a6 b6 c6 d6⟩),(9,⟨true,w8 y0 y1 y2 y3 y4 y5 y6 y7⟩),(513,⟨false,w4 a2 b2 c2 d2⟩),(521,⟨false,w4 a3 b3 c3 d3⟩),(529,⟨false,w4 a4 b4 c4 d4⟩)])):=by kernel_rfl
theorem mle_walk1 {z0 z1 z2 z3 z4 z5 z6 z7 y0 y1 y2 y3 y4 y5 y6 y7:Int} {p q:F2} {K:SV→Mem→Prop} (hup:KUp K) (hp:Ep z0 z1 z2 z3 z4 z5 z6 z7 p) (hq:Ep y0 y1 y2 y3 y4 y5 y6 y7 q) (hK:∀j0 j1 j2 j3 j4 j5 j6 j7,Ep j0 j1 j2 j3 j4 j5 j6 j7 (emul p q)→K (.tup []) (memL [(1,⟨false,w8 j0 j1 j2 j3 j4 j5 j6 j7⟩),(9,⟨true,w8 y0 y1 y2 y3 y4 y5 y6 y7⟩)])):
  addC z0 z1 z2 z3 z4 z5 z6 z7 fun a0 b0 c0 d0=>
  addC y0 y1 y2 y3 y4 y5 y6 y7 fun a1 b1 c1 d1=>
  mulC a0 b0 c0 d0 a1 b1 c1 d1 fun a2 b2 c2 d2=>
  mulC z0 z1 z2 z3 y0 y1 y2 y3 fun a3 b3 c3 d3=>
  mulC z4 z5 z6 z7 y4 y5 y6 y7 fun a4 b4 c4 d4=>
  subC a2 b2 c2 d2 a3 b3 c3 d3 fun a5 b5 c5 d5=>
  subC a5 b5 c5 d5 a4 b4 c4 d4 fun a6 b6 c6 d6=>
  subC a3 b3 c3 d3 a4 b4 c4 d4 fun a7 b7 c7 d7=>
  K (.tup []) (memL [(1,⟨false,w8 a7 b7 c7 d7 a6 b6 c6 d6⟩),(9,⟨true,w8 y0 y1 y2 y3 y4 y5 y6 y7⟩),(513,⟨false,w4 a2 b2 c2 d2⟩),(521,⟨false,w4 a3 b3 c3 d3⟩),(529,⟨false,w4 a4 b4 c4 d4⟩)]):=by
 refine addC_q hp.a hp.b ?_
 intro a0 b0 c0 d0 h0
 refine addC_q hq.a hq.b ?_
 intro a1 b1 c1 d1 h1
 refine mulC_q h0 h1 ?_
 intro a2 b2 c2 d2 h2
 refine mulC_q hp.a hq.a ?_
 intro a3 b3 c3 d3 h3
 refine mulC_q hp.b hq.b ?_
 intro a4 b4 c4 d4 h4
 refine subC_q h2 h3 (mq_lt _ _) ?_
 intro a5 b5 c5 d5 h5
 refine subC_q h5 h4 (mq_lt _ _) ?_
 intro a6 b6 c6 d6 h6
 refine subC_q h3 h4 (mq_lt _ _) ?_
 intro a7 b7 c7 d7 h7
 rw[kar_b]at h6
 exact hup.le (memL_sub [1,9,513,521,529] rfl (by decide) (by
  intro x hx
  simp only[List.mem_cons,List.not_mem_nil,or_false]at hx ⊢
  rcases hx with rfl | rfl<;>simp)) (hK _ _ _ _ _ _ _ _ ⟨h7,h6,(emul_ok _ _).1,(emul_ok _ _).2⟩)
def gMlE:G0:=fun args l K=>
 match args,l with
 | [.ptr 1 (.lit 0),.ptr 9 (.lit 0),.ptr 17 (.lit 0)],[(1,⟨false,z⟩),(9,⟨true,x⟩),(17,⟨true,y⟩)]=>c8 z fun _ _ _ _ _ _ _ _=>c8 x fun x0 x1 x2 x3 x4 x5 x6 x7=>c8 y fun y0 y1 y2 y3 y4 y5 y6 y7=>∃p q,(Ep x0 x1 x2 x3 x4 x5 x6 x7 p∧Ep y0 y1 y2 y3 y4 y5 y6 y7 q)∧∀j0 j1 j2 j3 j4 j5 j6 j7,Ep j0 j1 j2 j3 j4 j5 j6 j7 (emul p q)→K (.tup []) (memL [(1,⟨false,w8 j0 j1 j2 j3 j4 j5 j6 j7⟩),(9,⟨true,w8 x0 x1 x2 x3 x4 x5 x6 x7⟩),(17,⟨true,w8 y0 y1 y2 y3 y4 y5 y6 y7⟩)])
 | [.ptr 1 (.lit 0),.ptr 1 (.lit 0),.ptr 9 (.lit 0)],[(1,⟨false,z⟩),(9,⟨true,y⟩)]=>c8 z fun z0 z1 z2 z3 z4 z5 z6 z7=>c8 y fun y0 y1 y2 y3 y4 y5 y6 y7=>∃p q,(Ep z0 z1 z2 z3 z4 z5 z6 z7 p∧Ep y0 y1 y2 y3 y4 y5 y6 y7 q)∧∀j0 j1 j2 j3 j4 j5 j6 j7,Ep j0 j1 j2 j3 j4 j5 j6 j7 (emul p q)→K (.tup []) (memL [(1,⟨false,w8 j0 j1 j2 j3 j4 j5 j6 j7⟩),(9,⟨true,w8 y0 y1 y2 y3 y4 y5 y6 y7⟩)])
 | _,_=>False
theorem mle_good:Good gMlE:=by
 constructor
 ·intro args l K K' hk h
  unfold gMlE at h ⊢
  split at h
  ·exact c8_mono (fun _ _ _ _ _ _ _ _ h=>c8_mono (fun _ _ _ _ _ _ _ _ h=>c8_mono (fun _ _ _ _ _ _ _ _ h=>h.elim fun p h=>h.elim fun q h=>⟨p,q,h.1,fun j0 j1 j2 j3 j4 j5 j6 j7 e=>hk _ _ (h.2 j0 j1 j2 j3 j4 j5 j6 j7 e)⟩) h) h) h
  ·exact c8_mono (fun _ _ _ _ _ _ _ _ h=>c8_mono (fun _ _ _ _ _ _ _ _ h=>h.elim fun p h=>h.elim fun q h=>⟨p,q,h.1,fun j0 j1 j2 j3 j4 j5 j6 j7 e=>hk _ _ (h.2 j0 j1 j2 j3 j4 j5 j6 j7 e)⟩) h) h
  ·exact h.elim
 ·intro args l K h
  unfold gMlE at h
  split at h
  ·obtain ⟨_,_,_,_,_,_,_,_,_,h⟩:=c8_ex h
   obtain ⟨_,_,_,_,_,_,_,_,_,h⟩:=c8_ex h
   obtain ⟨_,_,_,_,_,_,_,_,_,h⟩:=c8_ex h
   obtain ⟨p,q,_,h⟩:=h
   obtain ⟨j0,j1,j2,j3,j4,j5,j6,j7,e⟩:=Ep.ex (emul_ok _ _)
   exact ⟨_,_,h _ _ _ _ _ _ _ _ e⟩
  ·obtain ⟨_,_,_,_,_,_,_,_,_,h⟩:=c8_ex h
   obtain ⟨_,_,_,_,_,_,_,_,_,h⟩:=c8_ex h
   obtain ⟨p,q,_,h⟩:=h
   obtain ⟨j0,j1,j2,j3,j4,j5,j6,j7,e⟩:=Ep.ex (emul_ok _ _)
   exact ⟨_,_,h _ _ _ _ _ _ _ _ e⟩
  ·exact h.elim
theorem mle_ok (args:List SV) (l:List (Nat×Reg)) (K:SV→Mem→Prop) (hup:KUp K) (h:gMlE args l K):∃U,execF cxMlE U Tryz.f69 64 args (memL l) K:=by
 unfold gMlE at h
 split at h
 ·obtain ⟨z0,z1,z2,z3,z4,z5,z6,z7,rfl,h0⟩:=c8_ex h
  obtain ⟨x0,x1,x2,x3,x4,x5,x6,x7,rfl,h1⟩:=c8_ex h0
  obtain ⟨y0,y1,y2,y3,y4,y5,y6,y7,rfl,h2⟩:=c8_ex h1
  obtain ⟨p,q,⟨hp,hq⟩,hK⟩:=h2
  exact ⟨u9,(vc_mle0 z0 z1 z2 z3 z4 z5 z6 z7 x0 x1 x2 x3 x4 x5 x6 x7 y0 y1 y2 y3 y4 y5 y6 y7 K).mpr (mle_walk0 hup hp hq hK)⟩
 ·obtain ⟨z0,z1,z2,z3,z4,z5,z6,z7,rfl,h0⟩:=c8_ex h
  obtain ⟨y0,y1,y2,y3,y4,y5,y6,y7,rfl,h1⟩:=c8_ex h0
  obtain ⟨p,q,⟨hp,hq⟩,hK⟩:=h1
  exact ⟨u9,(vc_mle1 z0 z1 z2 z3 z4 z5 z6 z7 y0 y1 y2 y3 y4 y5 y6 y7 K).mpr (mle_walk1 hup hp hq hK)⟩
 ·exact h.elim
def kMlE:Ef Tryz.prog:=mkE mixed 69 Tryz.func69 (by decide) (by kernel_rfl) [] [.ptr 8 false,.ptr 8 true,.ptr 8 true] gMlE mle_good mle_ok
def cxMlEw:Cx Tryz.prog:= { rds:= [],efs:= [kMlE],eqs:= [] }
theorem vc_mlew0 (z0 z1 z2 z3 z4 z5 z6 z7 x0 x1 x2 x3 x4 x5 x6 x7 y0 y1 y2 y3 y4 y5 y6 y7:Int) (K:SV→Mem→Prop):execF cxMlEw u9 Tryz.f32 64 [.ptr 1 (.lit 0),.ptr 9 (.lit 0),.ptr 17 (.lit 0)] (memL [(1,⟨false,w8 z0 z1 z2 z3 z4 z5 z6 z7⟩),(9,⟨true,w8 x0 x1 x2 x3 x4 x5 x6 x7⟩),(17,⟨true,w8 y0 y1 y2 y3 y4 y5 y6 y7⟩)]) K=
 (∃p q,(Ep x0 x1 x2 x3 x4 x5 x6 x7 p∧Ep y0 y1 y2 y3 y4 y5 y6 y7 q)∧∀j0 j1 j2 j3 j4 j5 j6 j7,Ep j0 j1 j2 j3 j4 j5 j6 j7 (emul p q)→K (.ptr 1 (.lit 0)) (memL [(1,⟨false,w8 j0 j1 j2 j3 j4 j5 j6 j7⟩),(9,⟨true,w8 x0 x1 x2 x3 x4 x5 x6 x7⟩),(17,⟨true,w8 y0 y1 y2 y3 y4 y5 y6 y7⟩)])):=by kernel_rfl
theorem vc_mlew1 (z0 z1 z2 z3 z4 z5 z6 z7 y0 y1 y2 y3 y4 y5 y6 y7:Int) (K:SV→Mem→Prop):execF cxMlEw u9 Tryz.f32 64 [.ptr 1 (.lit 0),.ptr 1 (.lit 0),.ptr 9 (.lit 0)] (memL [(1,⟨false,w8 z0 z1 z2 z3 z4 z5 z6 z7⟩),(9,⟨true,w8 y0 y1 y2 y3 y4 y5 y6 y7⟩)]) K=
 (∃p q,(Ep z0 z1 z2 z3 z4 z5 z6 z7 p∧Ep y0 y1 y2 y3 y4 y5 y6 y7 q)∧∀j0 j1 j2 j3 j4 j5 j6 j7,Ep j0 j1 j2 j3 j4 j5 j6 j7 (emul p q)→K (.ptr 1 (.lit 0)) (memL [(1,⟨false,w8 j0 j1 j2 j3 j4 j5 j6 j7⟩),(9,⟨true,w8 y0 y1 y2 y3 y4 y5 y6 y7⟩)])):=by kernel_rfl
def gMlEw:G0:=fun args l K=>
 match args,l with
 | [.ptr 1 (.lit 0),.ptr 9 (.lit 0),.ptr 17 (.lit 0)],[(1,⟨false,z⟩),(9,⟨true,x⟩),(17,⟨true,y⟩)]=>c8 z fun _ _ _ _ _ _ _ _=>c8 x fun x0 x1 x2 x3 x4 x5 x6 x7=>c8 y fun y0 y1 y2 y3 y4 y5 y6 y7=>∃p q,(Ep x0 x1 x2 x3 x4 x5 x6 x7 p∧Ep y0 y1 y2 y3 y4 y5 y6 y7 q)∧∀j0 j1 j2 j3 j4 j5 j6 j7,Ep j0 j1 j2 j3 j4 j5 j6 j7 (emul p q)→K (.ptr 1 (.lit 0)) (memL [(1,⟨false,w8 j0 j1 j2 j3 j4 j5 j6 j7⟩),(9,⟨true,w8 x0 x1 x2 x3 x4 x5 x6 x7⟩),(17,⟨true,w8 y0 y1 y2 y3 y4 y5 y6 y7⟩)])
 | [.ptr 1 (.lit 0),.ptr 1 (.lit 0),.ptr 9 (.lit 0)],[(1,⟨false,z⟩),(9,⟨true,y⟩)]=>c8 z fun z0 z1 z2 z3 z4 z5 z6 z7=>c8 y fun y0 y1 y2 y3 y4 y5 y6 y7=>∃p q,(Ep z0 z1 z2 z3 z4 z5 z6 z7 p∧Ep y0 y1 y2 y3 y4 y5 y6 y7 q)∧∀j0 j1 j2 j3 j4 j5 j6 j7,Ep j0 j1 j2 j3 j4 j5 j6 j7 (emul p q)→K (.ptr 1 (.lit 0)) (memL [(1,⟨false,w8 j0 j1 j2 j3 j4 j5 j6 j7⟩),(9,⟨true,w8 y0 y1 y2 y3 y4 y5 y6 y7⟩)])
 | _,_=>False
theorem mlew_good:Good gMlEw:=by
 constructor
 ·intro args l K K' hk h
  unfold gMlEw at h ⊢
  split at h
  ·exact c8_mono (fun _ _ _ _ _ _ _ _ h=>c8_mono (fun _ _ _ _ _ _ _ _ h=>c8_mono (fun _ _ _ _ _ _ _ _ h=>h.elim fun p h=>h.elim fun q h=>⟨p,q,h.1,fun j0 j1 j2 j3 j4 j5 j6 j7 e=>hk _ _ (h.2 j0 j1 j2 j3 j4 j5 j6 j7 e)⟩) h) h) h
  ·exact c8_mono (fun _ _ _ _ _ _ _ _ h=>c8_mono (fun _ _ _ _ _ _ _ _ h=>h.elim fun p h=>h.elim fun q h=>⟨p,q,h.1,fun j0 j1 j2 j3 j4 j5 j6 j7 e=>hk _ _ (h.2 j0 j1 j2 j3 j4 j5 j6 j7 e)⟩) h) h
  ·exact h.elim
 ·intro args l K h
  unfold gMlEw at h
  split at h
  ·obtain ⟨_,_,_,_,_,_,_,_,_,h⟩:=c8_ex h
   obtain ⟨_,_,_,_,_,_,_,_,_,h⟩:=c8_ex h
   obtain ⟨_,_,_,_,_,_,_,_,_,h⟩:=c8_ex h
   obtain ⟨p,q,_,h⟩:=h
   obtain ⟨j0,j1,j2,j3,j4,j5,j6,j7,e⟩:=Ep.ex (emul_ok _ _)
   exact ⟨_,_,h _ _ _ _ _ _ _ _ e⟩
  ·obtain ⟨_,_,_,_,_,_,_,_,_,h⟩:=c8_ex h
   obtain ⟨_,_,_,_,_,_,_,_,_,h⟩:=c8_ex h
   obtain ⟨p,q,_,h⟩:=h
   obtain ⟨j0,j1,j2,j3,j4,j5,j6,j7,e⟩:=Ep.ex (emul_ok _ _)
   exact ⟨_,_,h _ _ _ _ _ _ _ _ e⟩
  ·exact h.elim
theorem mlew_ok (args:List SV) (l:List (Nat×Reg)) (K:SV→Mem→Prop) (hup:KUp K) (h:gMlEw args l K):∃U,execF cxMlEw U Tryz.f32 64 args (memL l) K:=by
 unfold gMlEw at h
 split at h
 ·obtain ⟨z0,z1,z2,z3,z4,z5,z6,z7,rfl,h0⟩:=c8_ex h
  obtain ⟨x0,x1,x2,x3,x4,x5,x6,x7,rfl,h1⟩:=c8_ex h0
  obtain ⟨y0,y1,y2,y3,y4,y5,y6,y7,rfl,h2⟩:=c8_ex h1
  exact ⟨u9,(vc_mlew0 z0 z1 z2 z3 z4 z5 z6 z7 x0 x1 x2 x3 x4 x5 x6 x7 y0 y1 y2 y3 y4 y5 y6 y7 K).mpr h2⟩
 ·obtain ⟨z0,z1,z2,z3,z4,z5,z6,z7,rfl,h0⟩:=c8_ex h
  obtain ⟨y0,y1,y2,y3,y4,y5,y6,y7,rfl,h1⟩:=c8_ex h0
  exact ⟨u9,(vc_mlew1 z0 z1 z2 z3 z4 z5 z6 z7 y0 y1 y2 y3 y4 y5 y6 y7 K).mpr h1⟩
 ·exact h.elim
def kMlEw:Ef Tryz.prog:=mkE mixed 32 Tryz.func32 (by decide) (by kernel_rfl) [] [.ptr 8 false,.ptr 8 true,.ptr 8 true] gMlEw mlew_good mlew_ok
def cxSqE:Cx Tryz.prog:= { rds:= [],efs:= [kAddA,kSubA,kMulA,kDb,kSet],eqs:= [] }
theorem vc_sqe0 (z0 z1 z2 z3 z4 z5 z6 z7 x0 x1 x2 x3 x4 x5 x6 x7:Int) (K:SV→Mem→Prop):execF cxSqE u9 Tryz.f68 64 [.ptr 1 (.lit 0),.ptr 9 (.lit 0)] (memL [(1,⟨false,w8 z0 z1 z2 z3 z4 z5 z6 z7⟩),(9,⟨true,w8 x0 x1 x2 x3 x4 x5 x6 x7⟩)]) K=
 (addC x0 x1 x2 x3 x4 x5 x6 x7 fun a0 b0 c0 d0=>
 subC x0 x1 x2 x3 x4 x5 x6 x7 fun a1 b1 c1 d1=>
 mulC a0 b0 c0 d0 a1 b1 c1 d1 fun a2 b2 c2 d2=>
 mulC x0 x1 x2 x3 x4 x5 x6 x7 fun a3 b3 c3 d3=>
 addC a3 b3 c3 d3 a3 b3 c3 d3 fun a4 b4 c4 d4=>
 K (.tup []) (memL [(1,⟨false,w8 a2 b2 c2 d2 a4 b4 c4 d4⟩),(9,⟨true,w8 x0 x1 x2 x3 x4 x5 x6 x7⟩),(513,⟨false,w4 a2 b2 c2 d2⟩),(521,⟨false,w4 a4 b4 c4 d4⟩)])):=by kernel_rfl
theorem sqe_walk0 {x0 x1 x2 x3 x4 x5 x6 x7:Int} {p:F2} {K:SV→Mem→Prop} (hup:KUp K) (hp:Ep x0 x1 x2 x3 x4 x5 x6 x7 p) (hK:∀j0 j1 j2 j3 j4 j5 j6 j7,Ep j0 j1 j2 j3 j4 j5 j6 j7 (emul p p)→K (.tup []) (memL [(1,⟨false,w8 j0 j1 j2 j3 j4 j5 j6 j7⟩),(9,⟨true,w8 x0 x1 x2 x3 x4 x5 x6 x7⟩)])):
  addC x0 x1 x2 x3 x4 x5 x6 x7 fun a0 b0 c0 d0=>
  subC x0 x1 x2 x3 x4 x5 x6 x7 fun a1 b1 c1 d1=>
  mulC a0 b0 c0 d0 a1 b1 c1 d1 fun a2 b2 c2 d2=>
  mulC x0 x1 x2 x3 x4 x5 x6 x7 fun a3 b3 c3 d3=>
  addC a3 b3 c3 d3 a3 b3 c3 d3 fun a4 b4 c4 d4=>
  K (.tup []) (memL [(1,⟨false,w8 a2 b2 c2 d2 a4 b4 c4 d4⟩),(9,⟨true,w8 x0 x1 x2 x3 x4 x5 x6 x7⟩),(513,⟨false,w4 a2 b2 c2 d2⟩),(521,⟨false,w4 a4 b4 c4 d4⟩)]):=by
 refine addC_q hp.a hp.b ?_
 intro a0 b0 c0 d0 h0
 refine subC_q hp.a hp.b (hp.lb) ?_
 intro a1 b1 c1 d1 h1
 refine mulC_q h0 h1 ?_
 intro a2 b2 c2 d2 h2
 refine mulC_q hp.a hp.b ?_
 intro a3 b3 c3 d3 h3
 refine dblC_q h3 ?_
 intro a4 b4 c4 d4 h4
 rw[squ_a hp.ok]at h2
 rw[squ_b]at h4
 exact hup.le (memL_sub [1,9,513,521] rfl (by decide) (by
  intro x hx
  simp only[List.mem_cons,List.not_mem_nil,or_false]at hx ⊢
  rcases hx with rfl | rfl<;>simp)) (hK _ _ _ _ _ _ _ _ ⟨h2,h4,(emul_ok _ _).1,(emul_ok _ _).2⟩)
theorem vc_sqe1 (z0 z1 z2 z3 z4 z5 z6 z7:Int) (K:SV→Mem→Prop):execF cxSqE u9 Tryz.f68 64 [.ptr 1 (.lit 0),.ptr 1 (.lit 0)] (memL [(1,⟨false,w8 z0 z1 z2 z3 z4 z5 z6 z7⟩)]) K=
 (addC z0 z1 z2 z3 z4 z5 z6 z7 fun a0 b0 c0 d0=>
 subC z0 z1 z2 z3 z4 z5 z6 z7 fun a1 b1 c1 d1=>
 mulC a0 b0 c0 d0 a1 b1 c1 d1 fun a2 b2 c2 d2=>
 mulC z0 z1 z2 z3 z4 z5 z6 z7 fun a3 b3 c3 d3=>
 addC a3 b3 c3 d3 a3 b3 c3 d3 fun a4 b4 c4 d4=>
 K (.tup []) (memL [(1,⟨false,w8 a2 b2 c2 d2 a4 b4 c4 d4⟩),(513,⟨false,w4 a2 b2 c2 d2⟩),(521,⟨false,w4 a4 b4 c4 d4⟩)])):=by kernel_rfl
theorem sqe_walk1 {z0 z1 z2 z3 z4 z5 z6 z7:Int} {p:F2} {K:SV→Mem→Prop} (hup:KUp K) (hp:Ep z0 z1 z2 z3 z4 z5 z6 z7 p) (hK:∀j0 j1 j2 j3 j4 j5 j6 j7,Ep j0 j1 j2 j3 j4 j5 j6 j7 (emul p p)→K (.tup []) (memL [(1,⟨false,w8 j0 j1 j2 j3 j4 j5 j6 j7⟩)])):
  addC z0 z1 z2 z3 z4 z5 z6 z7 fun a0 b0 c0 d0=>
  subC z0 z1 z2 z3 z4 z5 z6 z7 fun a1 b1 c1 d1=>
  mulC a0 b0 c0 d0 a1 b1 c1 d1 fun a2 b2 c2 d2=>
  mulC z0 z1 z2 z3 z4 z5 z6 z7 fun a3 b3 c3 d3=>
  addC a3 b3 c3 d3 a3 b3 c3 d3 fun a4 b4 c4 d4=>
  K (.tup []) (memL [(1,⟨false,w8 a2 b2 c2 d2 a4 b4 c4 d4⟩),(513,⟨false,w4 a2 b2 c2 d2⟩),(521,⟨false,w4 a4 b4 c4 d4⟩)]):=by
 refine addC_q hp.a hp.b ?_
 intro a0 b0 c0 d0 h0
 refine subC_q hp.a hp.b (hp.lb) ?_
 intro a1 b1 c1 d1 h1
 refine mulC_q h0 h1 ?_
 intro a2 b2 c2 d2 h2
 refine mulC_q hp.a hp.b ?_
 intro a3 b3 c3 d3 h3
 refine dblC_q h3 ?_
 intro a4 b4 c4 d4 h4
 rw[squ_a hp.ok]at h2
 rw[squ_b]at h4
 exact hup.le (memL_sub [1,513,521] rfl (by decide) (by
  intro x hx
  simp only[List.mem_cons,List.not_mem_nil,or_false]at hx ⊢
  simp[hx])) (hK _ _ _ _ _ _ _ _ ⟨h2,h4,(emul_ok _ _).1,(emul_ok _ _).2⟩)
def gSqE:G0:=fun args l K=>
 match args,l with
 | [.ptr 1 (.lit 0),.ptr 9 (.lit 0)],[(1,⟨false,z⟩),(9,⟨true,x⟩)]=>c8 z fun _ _ _ _ _ _ _ _=>c8 x fun x0 x1 x2 x3 x4 x5 x6 x7=>∃p,Ep x0 x1 x2 x3 x4 x5 x6 x7 p∧∀j0 j1 j2 j3 j4 j5 j6 j7,Ep j0 j1 j2 j3 j4 j5 j6 j7 (emul p p)→K (.tup []) (memL [(1,⟨false,w8 j0 j1 j2 j3 j4 j5 j6 j7⟩),(9,⟨true,w8 x0 x1 x2 x3 x4 x5 x6 x7⟩)])
 | [.ptr 1 (.lit 0),.ptr 1 (.lit 0)],[(1,⟨false,z⟩)]=>c8 z fun z0 z1 z2 z3 z4 z5 z6 z7=>∃p,Ep z0 z1 z2 z3 z4 z5 z6 z7 p∧∀j0 j1 j2 j3 j4 j5 j6 j7,Ep j0 j1 j2 j3 j4 j5 j6 j7 (emul p p)→K (.tup []) (memL [(1,⟨false,w8 j0 j1 j2 j3 j4 j5 j6 j7⟩)])
 | _,_=>False
theorem sqe_good:Good gSqE:=by
 constructor
 ·intro args l K K' hk h
  unfold gSqE at h ⊢
  split at h
  ·exact c8_mono (fun _ _ _ _ _ _ _ _ h=>c8_mono (fun _ _ _ _ _ _ _ _ h=>h.elim fun p h=>⟨p,h.1,fun j0 j1 j2 j3 j4 j5 j6 j7 e=>hk _ _ (h.2 j0 j1 j2 j3 j4 j5 j6 j7 e)⟩) h) h
  ·exact c8_mono (fun _ _ _ _ _ _ _ _ h=>h.elim fun p h=>⟨p,h.1,fun j0 j1 j2 j3 j4 j5 j6 j7 e=>hk _ _ (h.2 j0 j1 j2 j3 j4 j5 j6 j7 e)⟩) h
  ·exact h.elim
 ·intro args l K h
  unfold gSqE at h
  split at h
  ·obtain ⟨_,_,_,_,_,_,_,_,_,h⟩:=c8_ex h
   obtain ⟨_,_,_,_,_,_,_,_,_,h⟩:=c8_ex h
   obtain ⟨p,_,h⟩:=h
   obtain ⟨j0,j1,j2,j3,j4,j5,j6,j7,e⟩:=Ep.ex (emul_ok _ _)
   exact ⟨_,_,h _ _ _ _ _ _ _ _ e⟩
  ·obtain ⟨_,_,_,_,_,_,_,_,_,h⟩:=c8_ex h
   obtain ⟨p,_,h⟩:=h
   obtain ⟨j0,j1,j2,j3,j4,j5,j6,j7,e⟩:=Ep.ex (emul_ok _ _)
   exact ⟨_,_,h _ _ _ _ _ _ _ _ e⟩
  ·exact h.elim
theorem sqe_ok (args:List SV) (l:List (Nat×Reg)) (K:SV→Mem→Prop) (hup:KUp K) (h:gSqE args l K):∃U,execF cxSqE U Tryz.f68 64 args (memL l) K:=by
 unfold gSqE at h
 split at h
 ·obtain ⟨z0,z1,z2,z3,z4,z5,z6,z7,rfl,h0⟩:=c8_ex h
  obtain ⟨x0,x1,x2,x3,x4,x5,x6,x7,rfl,h1⟩:=c8_ex h0
  obtain ⟨p,hp,hK⟩:=h1
  exact ⟨u9,(vc_sqe0 z0 z1 z2 z3 z4 z5 z6 z7 x0 x1 x2 x3 x4 x5 x6 x7 K).mpr (sqe_walk0 hup hp hK)⟩
 ·obtain ⟨z0,z1,z2,z3,z4,z5,z6,z7,rfl,h0⟩:=c8_ex h
  obtain ⟨p,hp,hK⟩:=h0
  exact ⟨u9,(vc_sqe1 z0 z1 z2 z3 z4 z5 z6 z7 K).mpr (sqe_walk1 hup hp hK)⟩
 ·exact h.elim
def kSqE:Ef Tryz.prog:=mkE mixed 68 Tryz.func68 (by decide) (by kernel_rfl) [] [.ptr 8 false,.ptr 8 true] gSqE sqe_good sqe_ok
def cxSqEw:Cx Tryz.prog:= { rds:= [],efs:= [kSqE],eqs:= [] }
theorem vc_sqew0 (z0 z1 z2 z3 z4 z5 z6 z7 x0 x1 x2 x3 x4 x5 x6 x7:Int) (K:SV→Mem→Prop):execF cxSqEw u9 Tryz.f31 64 [.ptr 1 (.lit 0),.ptr 9 (.lit 0)] (memL [(1,⟨false,w8 z0 z1 z2 z3 z4 z5 z6 z7⟩),(9,⟨true,w8 x0 x1 x2 x3 x4 x5 x6 x7⟩)]) K=
 (∃p,Ep x0 x1 x2 x3 x4 x5 x6 x7 p∧∀j0 j1 j2 j3 j4 j5 j6 j7,Ep j0 j1 j2 j3 j4 j5 j6 j7 (emul p p)→K (.ptr 1 (.lit 0)) (memL [(1,⟨false,w8 j0 j1 j2 j3 j4 j5 j6 j7⟩),(9,⟨true,w8 x0 x1 x2 x3 x4 x5 x6 x7⟩)])):=by kernel_rfl
theorem vc_sqew1 (z0 z1 z2 z3 z4 z5 z6 z7:Int) (K:SV→Mem→Prop):execF cxSqEw u9 Tryz.f31 64 [.ptr 1 (.lit 0),.ptr 1 (.lit 0)] (memL [(1,⟨false,w8 z0 z1 z2 z3 z4 z5 z6 z7⟩)]) K=
 (∃p,Ep z0 z1 z2 z3 z4 z5 z6 z7 p∧∀j0 j1 j2 j3 j4 j5 j6 j7,Ep j0 j1 j2 j3 j4 j5 j6 j7 (emul p p)→K (.ptr 1 (.lit 0)) (memL [(1,⟨false,w8 j0 j1 j2 j3 j4 j5 j6 j7⟩)])):=by kernel_rfl
def gSqEw:G0:=fun args l K=>
 match args,l with
 | [.ptr 1 (.lit 0),.ptr 9 (.lit 0)],[(1,⟨false,z⟩),(9,⟨true,x⟩)]=>c8 z fun _ _ _ _ _ _ _ _=>c8 x fun x0 x1 x2 x3 x4 x5 x6 x7=>∃p,Ep x0 x1 x2 x3 x4 x5 x6 x7 p∧∀j0 j1 j2 j3 j4 j5 j6 j7,Ep j0 j1 j2 j3 j4 j5 j6 j7 (emul p p)→K (.ptr 1 (.lit 0)) (memL [(1,⟨false,w8 j0 j1 j2 j3 j4 j5 j6 j7⟩),(9,⟨true,w8 x0 x1 x2 x3 x4 x5 x6 x7⟩)])
 | [.ptr 1 (.lit 0),.ptr 1 (.lit 0)],[(1,⟨false,z⟩)]=>c8 z fun z0 z1 z2 z3 z4 z5 z6 z7=>∃p,Ep z0 z1 z2 z3 z4 z5 z6 z7 p∧∀j0 j1 j2 j3 j4 j5 j6 j7,Ep j0 j1 j2 j3 j4 j5 j6 j7 (emul p p)→K (.ptr 1 (.lit 0)) (memL [(1,⟨false,w8 j0 j1 j2 j3 j4 j5 j6 j7⟩)])
 | _,_=>False
theorem sqew_good:Good gSqEw:=by
 constructor
 ·intro args l K K' hk h
  unfold gSqEw at h ⊢
  split at h
  ·exact c8_mono (fun _ _ _ _ _ _ _ _ h=>c8_mono (fun _ _ _ _ _ _ _ _ h=>h.elim fun p h=>⟨p,h.1,fun j0 j1 j2 j3 j4 j5 j6 j7 e=>hk _ _ (h.2 j0 j1 j2 j3 j4 j5 j6 j7 e)⟩) h) h
  ·exact c8_mono (fun _ _ _ _ _ _ _ _ h=>h.elim fun p h=>⟨p,h.1,fun j0 j1 j2 j3 j4 j5 j6 j7 e=>hk _ _ (h.2 j0 j1 j2 j3 j4 j5 j6 j7 e)⟩) h
  ·exact h.elim
 ·intro args l K h
  unfold gSqEw at h
  split at h
  ·obtain ⟨_,_,_,_,_,_,_,_,_,h⟩:=c8_ex h
   obtain ⟨_,_,_,_,_,_,_,_,_,h⟩:=c8_ex h
   obtain ⟨p,_,h⟩:=h
   obtain ⟨j0,j1,j2,j3,j4,j5,j6,j7,e⟩:=Ep.ex (emul_ok _ _)
   exact ⟨_,_,h _ _ _ _ _ _ _ _ e⟩
  ·obtain ⟨_,_,_,_,_,_,_,_,_,h⟩:=c8_ex h
   obtain ⟨p,_,h⟩:=h
   obtain ⟨j0,j1,j2,j3,j4,j5,j6,j7,e⟩:=Ep.ex (emul_ok _ _)
   exact ⟨_,_,h _ _ _ _ _ _ _ _ e⟩
  ·exact h.elim
theorem sqew_ok (args:List SV) (l:List (Nat×Reg)) (K:SV→Mem→Prop) (hup:KUp K) (h:gSqEw args l K):∃U,execF cxSqEw U Tryz.f31 64 args (memL l) K:=by
 unfold gSqEw at h
 split at h
 ·obtain ⟨z0,z1,z2,z3,z4,z5,z6,z7,rfl,h0⟩:=c8_ex h
  obtain ⟨x0,x1,x2,x3,x4,x5,x6,x7,rfl,h1⟩:=c8_ex h0
  exact ⟨u9,(vc_sqew0 z0 z1 z2 z3 z4 z5 z6 z7 x0 x1 x2 x3 x4 x5 x6 x7 K).mpr h1⟩
 ·obtain ⟨z0,z1,z2,z3,z4,z5,z6,z7,rfl,h0⟩:=c8_ex h
  exact ⟨u9,(vc_sqew1 z0 z1 z2 z3 z4 z5 z6 z7 K).mpr h0⟩
 ·exact h.elim
def kSqEw:Ef Tryz.prog:=mkE mixed 31 Tryz.func31 (by decide) (by kernel_rfl) [] [.ptr 8 false,.ptr 8 true] gSqEw sqew_good sqew_ok
def cxInE:Cx Tryz.prog:= { rds:= [],efs:= [kSqr,kAddA,kIv,kMulA,kNeg],eqs:= [] }
theorem vc_ine0 (z0 z1 z2 z3 z4 z5 z6 z7 x0 x1 x2 x3 x4 x5 x6 x7:Int) (K:SV→Mem→Prop):execF cxInE u9 Tryz.f35 64 [.ptr 1 (.lit 0),.ptr 9 (.lit 0)] (memL [(1,⟨false,w8 z0 z1 z2 z3 z4 z5 z6 z7⟩),(9,⟨true,w8 x0 x1 x2 x3 x4 x5 x6 x7⟩)]) K=
 (mulC x0 x1 x2 x3 x0 x1 x2 x3 fun a0 b0 c0 d0=>
 mulC x4 x5 x6 x7 x4 x5 x6 x7 fun a1 b1 c1 d1=>
 addC a0 b0 c0 d0 a1 b1 c1 d1 fun a2 b2 c2 d2=>
 ivC a2 b2 c2 d2 fun a3 b3 c3 d3=>
 mulC x0 x1 x2 x3 a3 b3 c3 d3 fun a4 b4 c4 d4=>
 mulC x4 x5 x6 x7 a3 b3 c3 d3 fun a5 b5 c5 d5=>
 ngC a5 b5 c5 d5 fun a6 b6 c6 d6=>
 K (.ptr 1 (.lit 0)) (memL [(1,⟨false,w8 a4 b4 c4 d4 a6 b6 c6 d6⟩),(9,⟨true,w8 x0 x1 x2 x3 x4 x5 x6 x7⟩),(521,⟨false,w4 a2 b2 c2 d2⟩),(529,⟨false,w4 a3 b3 c3 d3⟩)])):=by kernel_rfl
theorem ine_walk0 {x0 x1 x2 x3 x4 x5 x6 x7:Int} {p:F2} {K:SV→Mem→Prop} (hup:KUp K) (hp:Ep x0 x1 x2 x3 x4 x5 x6 x7 p) (hK:∀j0 j1 j2 j3 j4 j5 j6 j7,Ep j0 j1 j2 j3 j4 j5 j6 j7 (einv p)→K (.ptr 1 (.lit 0)) (memL [(1,⟨false,w8 j0 j1 j2 j3 j4 j5 j6 j7⟩),(9,⟨true,w8 x0 x1 x2 x3 x4 x5 x6 x7⟩)])):
  mulC x0 x1 x2 x3 x0 x1 x2 x3 fun a0 b0 c0 d0=>
  mulC x4 x5 x6 x7 x4 x5 x6 x7 fun a1 b1 c1 d1=>
  addC a0 b0 c0 d0 a1 b1 c1 d1 fun a2 b2 c2 d2=>
  ivC a2 b2 c2 d2 fun a3 b3 c3 d3=>
  mulC x0 x1 x2 x3 a3 b3 c3 d3 fun a4 b4 c4 d4=>
  mulC x4 x5 x6 x7 a3 b3 c3 d3 fun a5 b5 c5 d5=>
  ngC a5 b5 c5 d5 fun a6 b6 c6 d6=>
  K (.ptr 1 (.lit 0)) (memL [(1,⟨false,w8 a4 b4 c4 d4 a6 b6 c6 d6⟩),(9,⟨true,w8 x0 x1 x2 x3 x4 x5 x6 x7⟩),(521,⟨false,w4 a2 b2 c2 d2⟩),(529,⟨false,w4 a3 b3 c3 d3⟩)]):=by
 refine mulC_q hp.a hp.a ?_
 intro a0 b0 c0 d0 h0
 refine mulC_q hp.b hp.b ?_
 intro a1 b1 c1 d1 h1
 refine addC_q h0 h1 ?_
 intro a2 b2 c2 d2 h2
 refine ivC_m h2 (aq_lt _ _) ?_
 intro a3 b3 c3 d3 h3
 refine mulC_q hp.a h3 ?_
 intro a4 b4 c4 d4 h4
 refine mulC_q hp.b h3 ?_
 intro a5 b5 c5 d5 h5
 refine ngC_q h5 (mq_lt _ _) ?_
 intro a6 b6 c6 d6 h6
 exact hup.le (memL_sub [1,9,521,529] rfl (by decide) (by
  intro x hx
  simp only[List.mem_cons,List.not_mem_nil,or_false]at hx ⊢
  rcases hx with rfl | rfl<;>simp)) (hK _ _ _ _ _ _ _ _ ⟨h4,h6,(einv_ok _).1,(einv_ok _).2⟩)
theorem vc_ine1 (z0 z1 z2 z3 z4 z5 z6 z7:Int) (K:SV→Mem→Prop):execF cxInE u9 Tryz.f35 64 [.ptr 1 (.lit 0),.ptr 1 (.lit 0)] (memL [(1,⟨false,w8 z0 z1 z2 z3 z4 z5 z6 z7⟩)]) K=
 (mulC z0 z1 z2 z3 z0 z1 z2 z3 fun a0 b0 c0 d0=>
 mulC z4 z5 z6 z7 z4 z5 z6 z7 fun a1 b1 c1 d1=>
 addC a0 b0 c0 d0 a1 b1 c1 d1 fun a2 b2 c2 d2=>
 ivC a2 b2 c2 d2 fun a3 b3 c3 d3=>
 mulC z0 z1 z2 z3 a3 b3 c3 d3 fun a4 b4 c4 d4=>
 mulC z4 z5 z6 z7 a3 b3 c3 d3 fun a5 b5 c5 d5=>
 ngC a5 b5 c5 d5 fun a6 b6 c6 d6=>
 K (.ptr 1 (.lit 0)) (memL [(1,⟨false,w8 a4 b4 c4 d4 a6 b6 c6 d6⟩),(521,⟨false,w4 a2 b2 c2 d2⟩),(529,⟨false,w4 a3 b3 c3 d3⟩)])):=by kernel_rfl
theorem ine_walk1 {z0 z1 z2 z3 z4 z5 z6 z7:Int} {p:F2} {K:SV→Mem→Prop} (hup:KUp K) (hp:Ep z0 z1 z2 z3 z4 z5 z6 z7 p) (hK:∀j0 j1 j2 j3 j4 j5 j6 j7,Ep j0 j1 j2 j3 j4 j5 j6 j7 (einv p)→K (.ptr 1 (.lit 0)) (memL [(1,⟨false,w8 j0 j1 j2 j3 j4 j5 j6 j7⟩)])):
  mulC z0 z1 z2 z3 z0 z1 z2 z3 fun a0 b0 c0 d0=>
  mulC z4 z5 z6 z7 z4 z5 z6 z7 fun a1 b1 c1 d1=>
  addC a0 b0 c0 d0 a1 b1 c1 d1 fun a2 b2 c2 d2=>
  ivC a2 b2 c2 d2 fun a3 b3 c3 d3=>
  mulC z0 z1 z2 z3 a3 b3 c3 d3 fun a4 b4 c4 d4=>
  mulC z4 z5 z6 z7 a3 b3 c3 d3 fun a5 b5 c5 d5=>
  ngC a5 b5 c5 d5 fun a6 b6 c6 d6=>
  K (.ptr 1 (.lit 0)) (memL [(1,⟨false,w8 a4 b4 c4 d4 a6 b6 c6 d6⟩),(521,⟨false,w4 a2 b2 c2 d2⟩),(529,⟨false,w4 a3 b3 c3 d3⟩)]):=by
 refine mulC_q hp.a hp.a ?_
 intro a0 b0 c0 d0 h0
 refine mulC_q hp.b hp.b ?_
 intro a1 b1 c1 d1 h1
 refine addC_q h0 h1 ?_
 intro a2 b2 c2 d2 h2
 refine ivC_m h2 (aq_lt _ _) ?_
 intro a3 b3 c3 d3 h3
 refine mulC_q hp.a h3 ?_
 intro a4 b4 c4 d4 h4
 refine mulC_q hp.b h3 ?_
 intro a5 b5 c5 d5 h5
 refine ngC_q h5 (mq_lt _ _) ?_
 intro a6 b6 c6 d6 h6
 exact hup.le (memL_sub [1,521,529] rfl (by decide) (by
  intro x hx
  simp only[List.mem_cons,List.not_mem_nil,or_false]at hx ⊢
  simp[hx])) (hK _ _ _ _ _ _ _ _ ⟨h4,h6,(einv_ok _).1,(einv_ok _).2⟩)
def gInE:G0:=fun args l K=>
 match args,l with
 | [.ptr 1 (.lit 0),.ptr 9 (.lit 0)],[(1,⟨false,z⟩),(9,⟨true,x⟩)]=>c8 z fun _ _ _ _ _ _ _ _=>c8 x fun x0 x1 x2 x3 x4 x5 x6 x7=>∃p,Ep x0 x1 x2 x3 x4 x5 x6 x7 p∧∀j0 j1 j2 j3 j4 j5 j6 j7,Ep j0 j1 j2 j3 j4 j5 j6 j7 (einv p)→K (.ptr 1 (.lit 0)) (memL [(1,⟨false,w8 j0 j1 j2 j3 j4 j5 j6 j7⟩),(9,⟨true,w8 x0 x1 x2 x3 x4 x5 x6 x7⟩)])
 | [.ptr 1 (.lit 0),.ptr 1 (.lit 0)],[(1,⟨false,z⟩)]=>c8 z fun z0 z1 z2 z3 z4 z5 z6 z7=>∃p,Ep z0 z1 z2 z3 z4 z5 z6 z7 p∧∀j0 j1 j2 j3 j4 j5 j6 j7,Ep j0 j1 j2 j3 j4 j5 j6 j7 (einv p)→K (.ptr 1 (.lit 0)) (memL [(1,⟨false,w8 j0 j1 j2 j3 j4 j5 j6 j7⟩)])
 | _,_=>False
theorem ine_good:Good gInE:=by
 constructor
 ·intro args l K K' hk h
  unfold gInE at h ⊢
  split at h
  ·exact c8_mono (fun _ _ _ _ _ _ _ _ h=>c8_mono (fun _ _ _ _ _ _ _ _ h=>h.elim fun p h=>⟨p,h.1,fun j0 j1 j2 j3 j4 j5 j6 j7 e=>hk _ _ (h.2 j0 j1 j2 j3 j4 j5 j6 j7 e)⟩) h) h
  ·exact c8_mono (fun _ _ _ _ _ _ _ _ h=>h.elim fun p h=>⟨p,h.1,fun j0 j1 j2 j3 j4 j5 j6 j7 e=>hk _ _ (h.2 j0 j1 j2 j3 j4 j5 j6 j7 e)⟩) h
  ·exact h.elim
 ·intro args l K h
  unfold gInE at h
  split at h
  ·obtain ⟨_,_,_,_,_,_,_,_,_,h⟩:=c8_ex h
   obtain ⟨_,_,_,_,_,_,_,_,_,h⟩:=c8_ex h
   obtain ⟨p,_,h⟩:=h
   obtain ⟨j0,j1,j2,j3,j4,j5,j6,j7,e⟩:=Ep.ex (einv_ok _)
   exact ⟨_,_,h _ _ _ _ _ _ _ _ e⟩
  ·obtain ⟨_,_,_,_,_,_,_,_,_,h⟩:=c8_ex h
   obtain ⟨p,_,h⟩:=h
   obtain ⟨j0,j1,j2,j3,j4,j5,j6,j7,e⟩:=Ep.ex (einv_ok _)
   exact ⟨_,_,h _ _ _ _ _ _ _ _ e⟩
  ·exact h.elim
theorem ine_ok (args:List SV) (l:List (Nat×Reg)) (K:SV→Mem→Prop) (hup:KUp K) (h:gInE args l K):∃U,execF cxInE U Tryz.f35 64 args (memL l) K:=by
 unfold gInE at h
 split at h
 ·obtain ⟨z0,z1,z2,z3,z4,z5,z6,z7,rfl,h0⟩:=c8_ex h
  obtain ⟨x0,x1,x2,x3,x4,x5,x6,x7,rfl,h1⟩:=c8_ex h0
  obtain ⟨p,hp,hK⟩:=h1
  exact ⟨u9,(vc_ine0 z0 z1 z2 z3 z4 z5 z6 z7 x0 x1 x2 x3 x4 x5 x6 x7 K).mpr (ine_walk0 hup hp hK)⟩
 ·obtain ⟨z0,z1,z2,z3,z4,z5,z6,z7,rfl,h0⟩:=c8_ex h
  obtain ⟨p,hp,hK⟩:=h0
  exact ⟨u9,(vc_ine1 z0 z1 z2 z3 z4 z5 z6 z7 K).mpr (ine_walk1 hup hp hK)⟩
 ·exact h.elim
def kInE:Ef Tryz.prog:=mkE mixed 35 Tryz.func35 (by decide) (by kernel_rfl) [] [.ptr 8 false,.ptr 8 true] gInE ine_good ine_ok
theorem Vlt' {a b c d:Int} {x:Nat} (h:El a b c d x):V4 a b c d<qI:=by
 have:=h.lt
 rw[h.val,qI_eq]
 omega
theorem sel1 (p:Bool):(if p=true then (0:Int)else -1)=0∨(if p=true then (0:Int)else -1)=1∨(if p=true then (0:Int)else -1)= -1:=by
 cases p<;>simp
theorem or_val (p r:Bool):bor .i64 (if r=true then (0:Int)else -1) (bxor .i64 (-1) (if p=true then (0:Int)else -1))=if p=false∧r=true then 0 else -1:=by
 cases p<;>cases r<;>decide +kernel
theorem sel2 (p r:Bool):bor .i64 (if r=true then (0:Int)else -1) (bxor .i64 (-1) (if p=true then (0:Int)else -1))=0∨bor .i64 (if r=true then (0:Int)else -1) (bxor .i64 (-1) (if p=true then (0:Int)else -1))=1∨bor .i64 (if r=true then (0:Int)else -1) (bxor .i64 (-1) (if p=true then (0:Int)else -1))= -1:=by
 rw[or_val]
 split
 ·exact .inl rfl
 ·exact .inr (.inr rfl)
theorem sel_x {X:Nat}:(if bor .i64 (if sqN (gN (x2N X))=true then (0:Int)else -1) (bxor .i64 (-1) (if sqN (gN (x1N X))=true then (0:Int)else -1))=0 then x2N X else if (if sqN (gN (x1N X))=true then (0:Int)else -1)=0 then x1N X else x3N X)=mxN X:=by
 rw[or_val]
 unfold mxN
 cases sqN (gN (x1N X))<;>cases sqN (gN (x2N X))<;>simp
theorem sg_x {a b:Nat} (ha:a<2) (hb:b<2):IntKind.i64.wrap (bxor .u64 (a:Int) (b:Int))=if a=b then 0 else 1:=by
 have:a=0∨a=1:=by omega
 have:b=0∨b=1:=by omega
 rcases ‹a=0∨a=1› with rfl | rfl<;>rcases ‹b=0∨b=1› with rfl | rfl<;>decide +kernel
theorem sel3 (a b:Nat):IntKind.i64.wrap (bxor .u64 ((a%2:Nat):Int) ((b%2:Nat):Int))=0∨IntKind.i64.wrap (bxor .u64 ((a%2:Nat):Int) ((b%2:Nat):Int))=1∨IntKind.i64.wrap (bxor .u64 ((a%2:Nat):Int) ((b%2:Nat):Int))= -1:=by
 rw[sg_x (Nat.mod_lt _ (by omega)) (Nat.mod_lt _ (by omega))]
 split
 ·exact .inl rfl
 ·exact .inr (.inl rfl)
theorem sel_y {X:Nat}:(if IntKind.i64.wrap (bxor .u64 ((X%2:Nat):Int) ((rtN (gN (mxN X))%2:Nat):Int))=0 then rtN (gN (mxN X))else (0+(qN-rtN (gN (mxN X))))%qN)=myN X:=by
 rw[sg_x (Nat.mod_lt _ (by omega)) (Nat.mod_lt _ (by omega))]
 unfold myN
 by_cases h:X%2=rtN (gN (mxN X))%2
 ·rw[if_pos h,if_pos rfl,if_pos h.symm]
 ·rw[if_neg h,if_neg (by decide),if_neg fun e=>h e.symm]
def mpX (a b c d:Int) (i:Nat):Int:=lm (mont (mxN (mmul (V4 a b c d).toNat 1))) i
def mpY (a b c d:Int) (i:Nat):Int:=lm (mont (myN (mmul (V4 a b c d).toNat 1))) i
def rMc:R0:=fun args l=>
 match args,l with
 | [.ptr 1 (.lit 0)],[(1,⟨true,x⟩)]=>r4 x fun a b c d=>some (some ((Wd a∧Wd b∧Wd c∧Wd d)∧V4 a b c d<21888242871839275222246405745257275088696311157297823662689037894645226208583),.agg [U (mpX a b c d 0),U (mpX a b c d 1),U (mpX a b c d 2),U (mpX a b c d 3),U (mpY a b c d 0),U (mpY a b c d 1),U (mpY a b c d 2),U (mpY a b c d 3)])
 | _,_=>none
def r8 (c:Ct) (f:Int→Int→Int→Int→Int→Int→Int→Int→Option (Ob×SV)):Option (Ob×SV):=
 match c with
 | .cells [.int .u64 (.sym x0),.int .u64 (.sym x1),.int .u64 (.sym x2),.int .u64 (.sym x3),.int .u64 (.sym x4),.int .u64 (.sym x5),.int .u64 (.sym x6),.int .u64 (.sym x7)]=>f x0 x1 x2 x3 x4 x5 x6 x7
 | _=>none
theorem r8_ex {c:Ct} {f:Int→Int→Int→Int→Int→Int→Int→Int→Option (Ob×SV)} {x:Ob×SV} (h:r8 c f=some x):∃x0 x1 x2 x3 x4 x5 x6 x7,c=w8 x0 x1 x2 x3 x4 x5 x6 x7∧f x0 x1 x2 x3 x4 x5 x6 x7=some x:=by
 unfold r8 at h
 split at h
 ·exact ⟨_,_,_,_,_,_,_,_,rfl,h⟩
 ·cases h
def cxInf:Cx Tryz.prog:= { rds:= [cIz],efs:= [],eqs:= [] }
theorem vc_inf (x0 x1 x2 x3 x4 x5 x6 x7:Int) (P:SV→Prop):(execF cxInf u9 Tryz.f104 64 [.ptr 1 (.lit 0)] (memL [(1,⟨true,w8 x0 x1 x2 x3 x4 x5 x6 x7⟩)]) fun v _=>P v)=
 (W4 x0 x1 x2 x3∧(decide (V4 x0 x1 x2 x3=0)=true→W4 x4 x5 x6 x7∧P (.bool (.sym (decide (V4 x4 x5 x6 x7=0)))))∧(decide (V4 x0 x1 x2 x3=0)=false→P (.bool (.lit false)))):=by kernel_rfl
def rInf:R0:=fun args l=>
 match args,l with
 | [.ptr 1 (.lit 0)],[(1,⟨true,x⟩)]=>r8 x fun x0 x1 x2 x3 x4 x5 x6 x7=>some (some (W4 x0 x1 x2 x3∧W4 x4 x5 x6 x7),.bool (.sym (decide (V4 x0 x1 x2 x3=0∧V4 x4 x5 x6 x7=0))))
 | _,_=>none
theorem inf_ok (args:List SV) (l:List (Nat×Reg)) (p:Ob) (v:SV) (h:rInf args l=some (p,v)) (hp:p.ok):∃U,execF cxInf U Tryz.f104 64 args (memL l) fun v' _=>∀β u,Den β v' u→Den β v u:=by
 unfold rInf at h
 split at h
 ·obtain ⟨x0,x1,x2,x3,x4,x5,x6,x7,rfl,q⟩:=r8_ex h
  simp only[Option.some.injEq,Prod.mk.injEq]at q
  obtain ⟨rfl,rfl⟩:=q
  obtain ⟨ha,hb⟩:W4 x0 x1 x2 x3∧W4 x4 x5 x6 x7:=hp
  refine ⟨u9,?_⟩
  rw[vc_inf x0 x1 x2 x3 x4 x5 x6 x7 fun v'=>∀β u,Den β v' u→Den β (.bool (.sym (decide (V4 x0 x1 x2 x3=0∧V4 x4 x5 x6 x7=0)))) u]
  refine ⟨ha,fun h=>⟨hb,den_bool ?_⟩,fun h=>den_bool ?_⟩
  ·have h:V4 x0 x1 x2 x3=0:=by simpa using h
   show decide _=decide _
   simp[h]
  ·have h:¬V4 x0 x1 x2 x3=0:=by simpa using h
   show false=decide _
   simp[h]
 ·cases h
def cInf:Rd Tryz.prog:=mkQ mixed 104 Tryz.func104 (by decide) (by kernel_rfl) [] [.ptr 8 true] rInf inf_ok
def cxJs:Cx Tryz.prog:= { rds:= [],efs:= [],eqs:= [] }
theorem vc_js (p0 p1 p2 p3 p4 p5 p6 p7 p8 p9 p10 p11 q0 q1 q2 q3 q4 q5 q6 q7 q8 q9 q10 q11:Int) (K:SV→Mem→Prop):(execF cxJs u9 Tryz.f105 64 [.ptr 1 (.lit 0),.ptr 9 (.lit 0)] (memL [(1,⟨false,w12 p0 p1 p2 p3 p4 p5 p6 p7 p8 p9 p10 p11⟩),(9,⟨true,w12 q0 q1 q2 q3 q4 q5 q6 q7 q8 q9 q10 q11⟩)]) K)=
 (∀x0,x0=q0→∀x1,x1=q1→∀x2,x2=q2→∀x3,x3=q3→∀x4,x4=q4→∀x5,x5=q5→∀x6,x6=q6→∀x7,x7=q7→∀x8,x8=q8→∀x9,x9=q9→∀x10,x10=q10→∀x11,x11=q11→
  K (.ptr 1 (.lit 0)) (memL [(1,⟨false,w12 x0 x1 x2 x3 x4 x5 x6 x7 x8 x9 x10 x11⟩),(9,⟨true,w12 q0 q1 q2 q3 q4 q5 q6 q7 q8 q9 q10 q11⟩)])):=by kernel_rfl
def gJs:G0:=fun args l K=>
 match args,l with
 | [.ptr 1 (.lit 0),.ptr 9 (.lit 0)],[(1,⟨false,z⟩),(9,⟨true,q⟩)]=>c12 z fun _ _ _ _ _ _ _ _ _ _ _ _=>c12 q fun q0 q1 q2 q3 q4 q5 q6 q7 q8 q9 q10 q11=>K (.ptr 1 (.lit 0)) (memL [(1,⟨false,w12 q0 q1 q2 q3 q4 q5 q6 q7 q8 q9 q10 q11⟩),(9,⟨true,w12 q0 q1 q2 q3 q4 q5 q6 q7 q8 q9 q10 q11⟩)])
 | _,_=>False
theorem js_good:Good gJs:=by
 constructor
 ·intro args l K K' hk h
  unfold gJs at h ⊢
  split at h
  ·exact c12_mono (fun _ _ _ _ _ _ _ _ _ _ _ _ h=>c12_mono (fun _ _ _ _ _ _ _ _ _ _ _ _ h=>hk _ _ h) h) h
  ·exact h.elim
 ·intro args l K h
  unfold gJs at h
  split at h
  ·obtain ⟨_,_,_,_,_,_,_,_,_,_,_,_,_,h⟩:=c12_ex h
   obtain ⟨_,_,_,_,_,_,_,_,_,_,_,_,_,h⟩:=c12_ex h
   exact ⟨_,_,h⟩
  ·exact h.elim
theorem js_ok (args:List SV) (l:List (Nat×Reg)) (K:SV→Mem→Prop) (hup:KUp K) (h:gJs args l K):∃U,execF cxJs U Tryz.f105 64 args (memL l) K:=by
 unfold gJs at h
 split at h
 ·obtain ⟨p0,p1,p2,p3,p4,p5,p6,p7,p8,p9,p10,p11,rfl,h1⟩:=c12_ex h
  obtain ⟨q0,q1,q2,q3,q4,q5,q6,q7,q8,q9,q10,q11,rfl,h2⟩:=c12_ex h1
  refine ⟨u9,(vc_js p0 p1 p2 p3 p4 p5 p6 p7 p8 p9 p10 p11 q0 q1 q2 q3 q4 q5 q6 q7 q8 q9 q10 q11 K).mpr ?_⟩
  rintro _ rfl _ rfl _ rfl _ rfl _ rfl _ rfl _ rfl _ rfl _ rfl _ rfl _ rfl _ rfl
  exact h2
 ·exact h.elim
def kJs:Ef Tryz.prog:=mkE mixed 105 Tryz.func105 (by decide) (by kernel_rfl) [] [.ptr 12 false,.ptr 12 true] gJs js_good js_ok
def cxFa:Cx Tryz.prog:= { rds:= [cInf],efs:= [cSz,kSo,kSet],eqs:= [] }
theorem vc_fa (z0 z1 z2 z3 z4 z5 z6 z7 z8 z9 z10 z11 x0 x1 x2 x3 x4 x5 x6 x7:Int) (K:SV→Mem→Prop):(execF cxFa u9 Tryz.f55 64 [.ptr 1 (.lit 0),.ptr 9 (.lit 0)] (memL [(1,⟨false,w12 z0 z1 z2 z3 z4 z5 z6 z7 z8 z9 z10 z11⟩),(9,⟨true,w8 x0 x1 x2 x3 x4 x5 x6 x7⟩)]) K)=
 ((W4 x0 x1 x2 x3∧W4 x4 x5 x6 x7)∧(decide (V4 x0 x1 x2 x3=0∧V4 x4 x5 x6 x7=0)=true→K (.ptr 1 (.lit 0)) (memL [(1,⟨false,w12 15230403791020821917 754611498739239741 7381016538464732716 1011752739694698287 15230403791020821917 754611498739239741 7381016538464732716 1011752739694698287 0 0 0 0⟩),(9,⟨true,w8 x0 x1 x2 x3 x4 x5 x6 x7⟩)]))∧
  (decide (V4 x0 x1 x2 x3=0∧V4 x4 x5 x6 x7=0)=false→K (.ptr 1 (.lit 0)) (memL [(1,⟨false,w12 x0 x1 x2 x3 x4 x5 x6 x7 15230403791020821917 754611498739239741 7381016538464732716 1011752739694698287⟩),(9,⟨true,w8 x0 x1 x2 x3 x4 x5 x6 x7⟩)]))):=by kernel_rfl
theorem El.zero {a b c d:Int} {X:Nat} (h:El a b c d (mont X)) (l:X<qN):V4 a b c d=0↔X=0:=by
 rw[h.val,←mont_z l]
 omega
theorem El.same {a b c d a' b' c' d':Int} {X Y:Nat} (h:El a b c d (mont X)) (k:El a' b' c' d' (mont Y)) (l:X<qN) (m:Y<qN):V4 a b c d=V4 a' b' c' d'↔X=Y:=by
 rw[h.val,k.val,←mont_q l m]
 omega
theorem one_el:El 15230403791020821917 754611498739239741 7381016538464732716 1011752739694698287 (mont 1):=⟨by decide +kernel,by decide +kernel,by decide +kernel,by decide +kernel,mont_lt _⟩
theorem zero_el:El 0 0 0 0 (mont 0):=⟨by decide +kernel,by decide +kernel,by decide +kernel,by decide +kernel,mont_lt _⟩
def gFa:G0:=fun args l K=>
 match args,l with
 | [.ptr 1 (.lit 0),.ptr 9 (.lit 0)],[(1,⟨false,z⟩),(9,⟨true,x⟩)]=>c12 z fun _ _ _ _ _ _ _ _ _ _ _ _=>c8 x fun x0 x1 x2 x3 x4 x5 x6 x7=>∃X Y,(El x0 x1 x2 x3 (mont X)∧El x4 x5 x6 x7 (mont Y)∧X<qN∧Y<qN)∧∀j0 j1 j2 j3 j4 j5 j6 j7 j8 j9 j10 j11,Jp j0 j1 j2 j3 j4 j5 j6 j7 j8 j9 j10 j11 (jfr X Y)→K (.ptr 1 (.lit 0)) (memL [(1,⟨false,w12 j0 j1 j2 j3 j4 j5 j6 j7 j8 j9 j10 j11⟩),(9,⟨true,w8 x0 x1 x2 x3 x4 x5 x6 x7⟩)])
 | _,_=>False
theorem jfr_ex {X Y:Nat} (l:X<qN) (m:Y<qN):∃j0 j1 j2 j3 j4 j5 j6 j7 j8 j9 j10 j11,Jp j0 j1 j2 j3 j4 j5 j6 j7 j8 j9 j10 j11 (jfr X Y):=Jp.ex (jf1_lt l) (jf1_lt m) (jfZ_lt _ _)
theorem fa_good:Good gFa:=by
 constructor
 ·intro args l K K' hk h
  unfold gFa at h ⊢
  split at h
  ·exact c12_mono (fun _ _ _ _ _ _ _ _ _ _ _ _ h=>c8_mono (fun _ _ _ _ _ _ _ _ h=>h.elim fun X h=>h.elim fun Y h=>⟨X,Y,h.1,fun j0 j1 j2 j3 j4 j5 j6 j7 j8 j9 j10 j11 hj=>hk _ _ (h.2 j0 j1 j2 j3 j4 j5 j6 j7 j8 j9 j10 j11 hj)⟩) h) h
  ·exact h.elim
 ·intro args l K h
  unfold gFa at h
  split at h
  ·obtain ⟨_,_,_,_,_,_,_,_,_,_,_,_,_,h⟩:=c12_ex h
   obtain ⟨_,_,_,_,_,_,_,_,_,h⟩:=c8_ex h
   obtain ⟨X,Y,⟨_,_,l,m⟩,h⟩:=h
   obtain ⟨j0,j1,j2,j3,j4,j5,j6,j7,j8,j9,j10,j11,e⟩:=jfr_ex l m
   exact ⟨_,_,h _ _ _ _ _ _ _ _ _ _ _ _ e⟩
  ·exact h.elim
theorem fa_ok (args:List SV) (l:List (Nat×Reg)) (K:SV→Mem→Prop) (hup:KUp K) (h:gFa args l K):∃U,execF cxFa U Tryz.f55 64 args (memL l) K:=by
 unfold gFa at h
 split at h
 ·obtain ⟨z0,z1,z2,z3,z4,z5,z6,z7,z8,z9,z10,z11,rfl,h1⟩:=c12_ex h
  obtain ⟨x0,x1,x2,x3,x4,x5,x6,x7,rfl,X,Y,⟨hx,hy,l,m⟩,hK⟩:=c8_ex h1
  refine ⟨u9,(vc_fa z0 z1 z2 z3 z4 z5 z6 z7 z8 z9 z10 z11 x0 x1 x2 x3 x4 x5 x6 x7 K).mpr ⟨⟨hx.wd,hy.wd⟩,fun h=> ?_,fun h=> ?_⟩⟩
  ·have h:X=0∧Y=0:=by simpa only[decide_eq_true_eq,hx.zero l,hy.zero m]using h
   have e:jfr X Y=⟨1,1,0⟩:=by unfold jfr jf1 jfZ;rw[if_pos h,if_pos h,if_pos h]
   rw[e]at hK
   exact hK _ _ _ _ _ _ _ _ _ _ _ _ ⟨one_el,one_el,zero_el,by decide,by decide,by decide⟩
  ·have h:¬(X=0∧Y=0):=by simpa only[decide_eq_false_iff_not,hx.zero l,hy.zero m]using h
   have e:jfr X Y=⟨X,Y,1⟩:=by unfold jfr jf1 jfZ;rw[if_neg h,if_neg h,if_neg h]
   rw[e]at hK
   exact hK _ _ _ _ _ _ _ _ _ _ _ _ ⟨hx,hy,one_el,l,m,show 1<qN by decide⟩
 ·exact h.elim
def kFa:Ef Tryz.prog:=mkE mixed 55 Tryz.func55 (by decide) (by kernel_rfl) [] [.ptr 12 false,.ptr 8 true] gFa fa_good fa_ok
def cxSoE:Cx Tryz.prog:= { rds:= [],efs:= [kSo,cSz],eqs:= [] }
theorem vc_soe (z0 z1 z2 z3 z4 z5 z6 z7:Int) (K:SV→Mem→Prop):execF cxSoE u9 Tryz.f30 64 [.ptr 1 (.lit 0)] (memL [(1,⟨false,w8 z0 z1 z2 z3 z4 z5 z6 z7⟩)]) K=K (.ptr 1 (.lit 0)) (memL [(1,⟨false,w8 15230403791020821917 754611498739239741 7381016538464732716 1011752739694698287 0 0 0 0⟩)]):=by kernel_rfl
def gSoE:G0:=fun args l K=>
 match args,l with
 | [.ptr 1 (.lit 0)],[(1,⟨false,z⟩)]=>c8 z fun _ _ _ _ _ _ _ _=>∀j0 j1 j2 j3 j4 j5 j6 j7,Ep j0 j1 j2 j3 j4 j5 j6 j7 oneE→K (.ptr 1 (.lit 0)) (memL [(1,⟨false,w8 j0 j1 j2 j3 j4 j5 j6 j7⟩)])
 | _,_=>False
theorem soe_good:Good gSoE:=by
 constructor
 ·intro args l K K' hk h
  unfold gSoE at h ⊢
  split at h
  ·exact c8_mono (fun _ _ _ _ _ _ _ _ h=>fun j0 j1 j2 j3 j4 j5 j6 j7 e=>hk _ _ (h j0 j1 j2 j3 j4 j5 j6 j7 e)) h
  ·exact h.elim
 ·intro args l K h
  unfold gSoE at h
  split at h
  ·obtain ⟨_,_,_,_,_,_,_,_,_,h⟩:=c8_ex h
   obtain ⟨j0,j1,j2,j3,j4,j5,j6,j7,e⟩:=Ep.ex oneE_ok
   exact ⟨_,_,h _ _ _ _ _ _ _ _ e⟩
  ·exact h.elim
theorem soe_ok (args:List SV) (l:List (Nat×Reg)) (K:SV→Mem→Prop) (hup:KUp K) (h:gSoE args l K):∃U,execF cxSoE U Tryz.f30 64 args (memL l) K:=by
 unfold gSoE at h
 split at h
 ·obtain ⟨z0,z1,z2,z3,z4,z5,z6,z7,rfl,h0⟩:=c8_ex h
  exact ⟨u9,(vc_soe z0 z1 z2 z3 z4 z5 z6 z7 K).mpr (h0 _ _ _ _ _ _ _ _ ⟨one_el,zero_el,oneE_ok.1,oneE_ok.2⟩)⟩
 ·exact h.elim
def kSoE:Ef Tryz.prog:=mkE mixed 30 Tryz.func30 (by decide) (by kernel_rfl) [] [.ptr 8 false] gSoE soe_good soe_ok
def cxNm:Cx Tryz.prog:= { rds:= [],efs:= [kSqr,kAddA],eqs:= [] }
theorem vc_nm (x0 x1 x2 x3 x4 x5 x6 x7 z0 z1 z2 z3:Int) (K:SV→Mem→Prop):execF cxNm u9 Tryz.f80 64 [.ptr 1 (.lit 0),.ptr 9 (.lit 0)] (memL [(1,⟨true,w8 x0 x1 x2 x3 x4 x5 x6 x7⟩),(9,⟨false,w4 z0 z1 z2 z3⟩)]) K=
 mulC x0 x1 x2 x3 x0 x1 x2 x3 fun a b c d=>mulC x4 x5 x6 x7 x4 x5 x6 x7 fun e f g h=>addC a b c d e f g h fun i j k l=>K (.tup []) (memL [(1,⟨true,w8 x0 x1 x2 x3 x4 x5 x6 x7⟩),(9,⟨false,w4 i j k l⟩),(513,⟨false,w4 e f g h⟩)]):=by kernel_rfl
def gNm:G0:=fun args l K=>
 match args,l with
 | [.ptr 1 (.lit 0),.ptr 9 (.lit 0)],[(1,⟨true,x⟩),(9,⟨false,z⟩)]=>c8 x fun x0 x1 x2 x3 x4 x5 x6 x7=>c4 z fun _ _ _ _=>∃p,Ep x0 x1 x2 x3 x4 x5 x6 x7 p∧∀i j k l,El i j k l (mont (enorm p))→K (.tup []) (memL [(1,⟨true,w8 x0 x1 x2 x3 x4 x5 x6 x7⟩),(9,⟨false,w4 i j k l⟩)])
 | _,_=>False
theorem nm_good:Good gNm:=by
 constructor
 ·intro args l K K' hk h
  unfold gNm at h ⊢
  split at h
  ·exact c8_mono (fun _ _ _ _ _ _ _ _ h=>c4_mono (fun _ _ _ _ h=>h.elim fun p h=>⟨p,h.1,fun i j k l e=>hk _ _ (h.2 i j k l e)⟩) h) h
  ·exact h.elim
 ·intro args l K h
  unfold gNm at h
  split at h
  ·obtain ⟨_,_,_,_,_,_,_,_,_,h⟩:=c8_ex h
   obtain ⟨_,_,_,_,_,h⟩:=c4_ex h
   obtain ⟨p,_,h⟩:=h
   exact ⟨_,_,h _ _ _ _ (El.of (mont_lt _))⟩
  ·exact h.elim
theorem nm_ok (args:List SV) (l:List (Nat×Reg)) (K:SV→Mem→Prop) (hup:KUp K) (h:gNm args l K):∃U,execF cxNm U Tryz.f80 64 args (memL l) K:=by
 unfold gNm at h
 split at h
 ·obtain ⟨x0,x1,x2,x3,x4,x5,x6,x7,rfl,h0⟩:=c8_ex h
  obtain ⟨z0,z1,z2,z3,rfl,p,hp,hK⟩:=c4_ex h0
  refine ⟨u9,(vc_nm x0 x1 x2 x3 x4 x5 x6 x7 z0 z1 z2 z3 K).mpr ?_⟩
  refine mulC_q hp.a hp.a ?_
  intro a b c d h1
  refine mulC_q hp.b hp.b ?_
  intro e f g h h2
  refine addC_q h1 h2 ?_
  intro i j k l h3
  exact hup.le (memL_sub [1,9,513] rfl (by decide) (by
   intro x hx
   simp only[List.mem_cons,List.not_mem_nil,or_false]at hx ⊢
   rcases hx with rfl | rfl<;>simp)) (hK _ _ _ _ h3)
 ·exact h.elim
def kNm:Ef Tryz.prog:=mkE mixed 80 Tryz.func80 (by decide) (by kernel_rfl) [] [.ptr 8 true,.ptr 4 false] gNm nm_good nm_ok
def cxLgE:Cx Tryz.prog:= { rds:= [cLgd],efs:= [kNm],eqs:= [] }
def bE (x0 x1 x2 x3 x4 x5 x6 x7:Int):F2:=⟨mmul (V4 x0 x1 x2 x3).toNat 1,mmul (V4 x4 x5 x6 x7).toNat 1⟩
theorem bE_ep {x0 x1 x2 x3 x4 x5 x6 x7:Int} (h1:W4 x0 x1 x2 x3) (h2:W4 x4 x5 x6 x7) (h3:V4 x0 x1 x2 x3<21888242871839275222246405745257275088696311157297823662689037894645226208583) (h4:V4 x4 x5 x6 x7<21888242871839275222246405745257275088696311157297823662689037894645226208583):Ep x0 x1 x2 x3 x4 x5 x6 x7 (bE x0 x1 x2 x3 x4 x5 x6 x7):=by
 have A:=ws_of h1.1 h1.2.1 h1.2.2.1 h1.2.2.2
 have B:=ws_of h2.1 h2.2.1 h2.2.2.1 h2.2.2.2
 have ea:=A.val
 have eb:=B.val
 have la:(V4 x0 x1 x2 x3).toNat<qN:=by unfold qN;omega
 have lb:(V4 x4 x5 x6 x7).toNat<qN:=by unfold qN;omega
 refine ⟨?_,?_,mmul_lt _ _,mmul_lt _ _⟩
 ·show El _ _ _ _ (mont (mmul (V4 x0 x1 x2 x3).toNat 1))
  rw[mont_of la]
  exact ⟨A.a,A.b,A.c,A.d,la⟩
 ·show El _ _ _ _ (mont (mmul (V4 x4 x5 x6 x7).toNat 1))
  rw[mont_of lb]
  exact ⟨B.a,B.b,B.c,B.d,lb⟩
theorem Ep.num {x0 x1 x2 x3 x4 x5 x6 x7:Int} {p:F2} (h:Ep x0 x1 x2 x3 x4 x5 x6 x7 p):bE x0 x1 x2 x3 x4 x5 x6 x7=p:=by
 refine F2.eq ?_ ?_
 ·show mmul (V4 x0 x1 x2 x3).toNat 1=p.a
  rw[show (V4 x0 x1 x2 x3).toNat=_ from Vx h.a.ws,mont_back,Nat.mod_eq_of_lt h.la]
 ·show mmul (V4 x4 x5 x6 x7).toNat 1=p.b
  rw[show (V4 x4 x5 x6 x7).toNat=_ from Vx h.b.ws,mont_back,Nat.mod_eq_of_lt h.lb]
theorem Ep.pre {x0 x1 x2 x3 x4 x5 x6 x7:Int} {p:F2} (h:Ep x0 x1 x2 x3 x4 x5 x6 x7 p):(W4 x0 x1 x2 x3∧W4 x4 x5 x6 x7)∧V4 x0 x1 x2 x3<qI∧V4 x4 x5 x6 x7<qI:=⟨⟨h.a.wd,h.b.wd⟩,Vlt' h.a,Vlt' h.b⟩
def seE (s:Int) (p q:F2):F2:=if s=0 then p else q
theorem seE_ok {s:Int} {p q:F2} (h:p.ok) (k:q.ok):(seE s p q).ok:=by
 unfold seE
 split
 ·exact h
 ·exact k
theorem seE_of {s:Int} {p q:F2} {j0 j1 j2 j3 j4 j5 j6 j7:Int} (h:El j0 j1 j2 j3 (mont (if s=0 then p.a else q.a))) (k:El j4 j5 j6 j7 (mont (if s=0 then p.b else q.b))) (hp:p.ok) (hq:q.ok):Ep j0 j1 j2 j3 j4 j5 j6 j7 (seE s p q):=by
 have o:=seE_ok (s:=s) hp hq
 refine ⟨?_,?_,o.1,o.2⟩
 ·unfold seE
  split
  ·rename_i e;rw[if_pos e]at h;exact h
  ·rename_i e;rw[if_neg e]at h;exact h
 ·unfold seE
  split
  ·rename_i e;rw[if_pos e]at k;exact k
  ·rename_i e;rw[if_neg e]at k;exact k
def cxSlE:Cx Tryz.prog:= { rds:= [],efs:= [kSel],eqs:= [] }
theorem vc_sle0 (s z0 z1 z2 z3 z4 z5 z6 z7 x0 x1 x2 x3 x4 x5 x6 x7 y0 y1 y2 y3 y4 y5 y6 y7:Int) (K:SV→Mem→Prop):execF cxSlE u9 Tryz.f38 64 [.ptr 1 (.lit 0),.int .i64 (.sym s),.ptr 9 (.lit 0),.ptr 17 (.lit 0)] (memL [(1,⟨false,w8 z0 z1 z2 z3 z4 z5 z6 z7⟩),(9,⟨true,w8 x0 x1 x2 x3 x4 x5 x6 x7⟩),(17,⟨true,w8 y0 y1 y2 y3 y4 y5 y6 y7⟩)]) K=
 selC s x0 x1 x2 x3 y0 y1 y2 y3 fun a b c d=>selC s x4 x5 x6 x7 y4 y5 y6 y7 fun e f g h=>K (.ptr 1 (.lit 0)) (memL [(1,⟨false,w8 a b c d e f g h⟩),(9,⟨true,w8 x0 x1 x2 x3 x4 x5 x6 x7⟩),(17,⟨true,w8 y0 y1 y2 y3 y4 y5 y6 y7⟩)]):=by kernel_rfl
theorem vc_sle1 (s z0 z1 z2 z3 z4 z5 z6 z7 x0 x1 x2 x3 x4 x5 x6 x7:Int) (K:SV→Mem→Prop):execF cxSlE u9 Tryz.f38 64 [.ptr 1 (.lit 0),.int .i64 (.sym s),.ptr 9 (.lit 0),.ptr 1 (.lit 0)] (memL [(1,⟨false,w8 z0 z1 z2 z3 z4 z5 z6 z7⟩),(9,⟨true,w8 x0 x1 x2 x3 x4 x5 x6 x7⟩)]) K=
 selC s x0 x1 x2 x3 z0 z1 z2 z3 fun a b c d=>selC s x4 x5 x6 x7 z4 z5 z6 z7 fun e f g h=>K (.ptr 1 (.lit 0)) (memL [(1,⟨false,w8 a b c d e f g h⟩),(9,⟨true,w8 x0 x1 x2 x3 x4 x5 x6 x7⟩)]):=by kernel_rfl
theorem vc_sle2 (s z0 z1 z2 z3 z4 z5 z6 z7 y0 y1 y2 y3 y4 y5 y6 y7:Int) (K:SV→Mem→Prop):execF cxSlE u9 Tryz.f38 64 [.ptr 1 (.lit 0),.int .i64 (.sym s),.ptr 1 (.lit 0),.ptr 9 (.lit 0)] (memL [(1,⟨false,w8 z0 z1 z2 z3 z4 z5 z6 z7⟩),(9,⟨true,w8 y0 y1 y2 y3 y4 y5 y6 y7⟩)]) K=
 selC s z0 z1 z2 z3 y0 y1 y2 y3 fun a b c d=>selC s z4 z5 z6 z7 y4 y5 y6 y7 fun e f g h=>K (.ptr 1 (.lit 0)) (memL [(1,⟨false,w8 a b c d e f g h⟩),(9,⟨true,w8 y0 y1 y2 y3 y4 y5 y6 y7⟩)]):=by kernel_rfl
def gSlE:G0:=fun args l K=>
 match args,l with
 | [.ptr 1 (.lit 0),.int .i64 (.sym s),.ptr 9 (.lit 0),.ptr 17 (.lit 0)],[(1,⟨false,z⟩),(9,⟨true,x⟩),(17,⟨true,y⟩)]=>c8 z fun _ _ _ _ _ _ _ _=>c8 x fun x0 x1 x2 x3 x4 x5 x6 x7=>c8 y fun y0 y1 y2 y3 y4 y5 y6 y7=>(s=0∨s=1∨s= -1)∧∃p q,(Ep x0 x1 x2 x3 x4 x5 x6 x7 p∧Ep y0 y1 y2 y3 y4 y5 y6 y7 q)∧∀j0 j1 j2 j3 j4 j5 j6 j7,Ep j0 j1 j2 j3 j4 j5 j6 j7 (seE s p q)→K (.ptr 1 (.lit 0)) (memL [(1,⟨false,w8 j0 j1 j2 j3 j4 j5 j6 j7⟩),(9,⟨true,w8 x0 x1 x2 x3 x4 x5 x6 x7⟩),(17,⟨true,w8 y0 y1 y2 y3 y4 y5 y6 y7⟩)])
 | [.ptr 1 (.lit 0),.int .i64 (.sym s),.ptr 9 (.lit 0),.ptr 1 (.lit 0)],[(1,⟨false,z⟩),(9,⟨true,x⟩)]=>c8 z fun z0 z1 z2 z3 z4 z5 z6 z7=>c8 x fun x0 x1 x2 x3 x4 x5 x6 x7=>(s=0∨s=1∨s= -1)∧∃p q,(Ep x0 x1 x2 x3 x4 x5 x6 x7 p∧Ep z0 z1 z2 z3 z4 z5 z6 z7 q)∧∀j0 j1 j2 j3 j4 j5 j6 j7,Ep j0 j1 j2 j3 j4 j5 j6 j7 (seE s p q)→K (.ptr 1 (.lit 0)) (memL [(1,⟨false,w8 j0 j1 j2 j3 j4 j5 j6 j7⟩),(9,⟨true,w8 x0 x1 x2 x3 x4 x5 x6 x7⟩)])
 | [.ptr 1 (.lit 0),.int .i64 (.sym s),.ptr 1 (.lit 0),.ptr 9 (.lit 0)],[(1,⟨false,z⟩),(9,⟨true,y⟩)]=>c8 z fun z0 z1 z2 z3 z4 z5 z6 z7=>c8 y fun y0 y1 y2 y3 y4 y5 y6 y7=>(s=0∨s=1∨s= -1)∧∃p q,(Ep z0 z1 z2 z3 z4 z5 z6 z7 p∧Ep y0 y1 y2 y3 y4 y5 y6 y7 q)∧∀j0 j1 j2 j3 j4 j5 j6 j7,Ep j0 j1 j2 j3 j4 j5 j6 j7 (seE s p q)→K (.ptr 1 (.lit 0)) (memL [(1,⟨false,w8 j0 j1 j2 j3 j4 j5 j6 j7⟩),(9,⟨true,w8 y0 y1 y2 y3 y4 y5 y6 y7⟩)])
 | _,_=>False
theorem sle_good:Good gSlE:=by
 constructor
 ·intro args l K K' hk h
  unfold gSlE at h ⊢
  split at h
  ·exact c8_mono (fun _ _ _ _ _ _ _ _ h=>c8_mono (fun _ _ _ _ _ _ _ _ h=>c8_mono (fun _ _ _ _ _ _ _ _ h=>⟨h.1,h.2.elim fun p h=>h.elim fun q h=>⟨p,q,h.1,fun j0 j1 j2 j3 j4 j5 j6 j7 e=>hk _ _ (h.2 j0 j1 j2 j3 j4 j5 j6 j7 e)⟩⟩) h) h) h
  ·exact c8_mono (fun _ _ _ _ _ _ _ _ h=>c8_mono (fun _ _ _ _ _ _ _ _ h=>⟨h.1,h.2.elim fun p h=>h.elim fun q h=>⟨p,q,h.1,fun j0 j1 j2 j3 j4 j5 j6 j7 e=>hk _ _ (h.2 j0 j1 j2 j3 j4 j5 j6 j7 e)⟩⟩) h) h
  ·exact c8_mono (fun _ _ _ _ _ _ _ _ h=>c8_mono (fun _ _ _ _ _ _ _ _ h=>⟨h.1,h.2.elim fun p h=>h.elim fun q h=>⟨p,q,h.1,fun j0 j1 j2 j3 j4 j5 j6 j7 e=>hk _ _ (h.2 j0 j1 j2 j3 j4 j5 j6 j7 e)⟩⟩) h) h
  ·exact h.elim
 ·intro args l K h
  unfold gSlE at h
  split at h
  ·obtain ⟨_,_,_,_,_,_,_,_,_,h⟩:=c8_ex h
   obtain ⟨_,_,_,_,_,_,_,_,_,h⟩:=c8_ex h
   obtain ⟨_,_,_,_,_,_,_,_,_,h⟩:=c8_ex h
   obtain ⟨_,p,q,⟨hp,hq⟩,h⟩:=h
   obtain ⟨j0,j1,j2,j3,j4,j5,j6,j7,e⟩:=Ep.ex (seE_ok (s:=_) hp.ok hq.ok)
   exact ⟨_,_,h _ _ _ _ _ _ _ _ e⟩
  ·obtain ⟨_,_,_,_,_,_,_,_,_,h⟩:=c8_ex h
   obtain ⟨_,_,_,_,_,_,_,_,_,h⟩:=c8_ex h
   obtain ⟨_,p,q,⟨hp,hq⟩,h⟩:=h
   obtain ⟨j0,j1,j2,j3,j4,j5,j6,j7,e⟩:=Ep.ex (seE_ok (s:=_) hp.ok hq.ok)
   exact ⟨_,_,h _ _ _ _ _ _ _ _ e⟩
  ·obtain ⟨_,_,_,_,_,_,_,_,_,h⟩:=c8_ex h
   obtain ⟨_,_,_,_,_,_,_,_,_,h⟩:=c8_ex h
   obtain ⟨_,p,q,⟨hp,hq⟩,h⟩:=h
   obtain ⟨j0,j1,j2,j3,j4,j5,j6,j7,e⟩:=Ep.ex (seE_ok (s:=_) hp.ok hq.ok)
   exact ⟨_,_,h _ _ _ _ _ _ _ _ e⟩
  ·exact h.elim
theorem sle_ok (args:List SV) (l:List (Nat×Reg)) (K:SV→Mem→Prop) (hup:KUp K) (h:gSlE args l K):∃U,execF cxSlE U Tryz.f38 64 args (memL l) K:=by
 unfold gSlE at h
 split at h
 ·rename_i s rz rx ry
  obtain ⟨z0,z1,z2,z3,z4,z5,z6,z7,rfl,h0⟩:=c8_ex h
  obtain ⟨x0,x1,x2,x3,x4,x5,x6,x7,rfl,h1⟩:=c8_ex h0
  obtain ⟨y0,y1,y2,y3,y4,y5,y6,y7,rfl,h2⟩:=c8_ex h1
  obtain ⟨hs,p,q,⟨hp,hq⟩,hK⟩:=h2
  refine ⟨u9,(vc_sle0 s z0 z1 z2 z3 z4 z5 z6 z7 x0 x1 x2 x3 x4 x5 x6 x7 y0 y1 y2 y3 y4 y5 y6 y7 K).mpr ?_⟩
  refine selC_m hs hp.a hq.a ?_
  intro a b c d k1
  refine selC_m hs hp.b hq.b ?_
  intro e f g h k2
  exact hK _ _ _ _ _ _ _ _ (seE_of k1 k2 hp.ok hq.ok)
 ·rename_i s rz rx
  obtain ⟨z0,z1,z2,z3,z4,z5,z6,z7,rfl,h0⟩:=c8_ex h
  obtain ⟨x0,x1,x2,x3,x4,x5,x6,x7,rfl,h1⟩:=c8_ex h0
  obtain ⟨hs,p,q,⟨hp,hq⟩,hK⟩:=h1
  refine ⟨u9,(vc_sle1 s z0 z1 z2 z3 z4 z5 z6 z7 x0 x1 x2 x3 x4 x5 x6 x7 K).mpr ?_⟩
  refine selC_m hs hp.a hq.a ?_
  intro a b c d k1
  refine selC_m hs hp.b hq.b ?_
  intro e f g h k2
  exact hK _ _ _ _ _ _ _ _ (seE_of k1 k2 hp.ok hq.ok)
 ·rename_i s rz ry
  obtain ⟨z0,z1,z2,z3,z4,z5,z6,z7,rfl,h0⟩:=c8_ex h
  obtain ⟨y0,y1,y2,y3,y4,y5,y6,y7,rfl,h1⟩:=c8_ex h0
  obtain ⟨hs,p,q,⟨hp,hq⟩,hK⟩:=h1
  refine ⟨u9,(vc_sle2 s z0 z1 z2 z3 z4 z5 z6 z7 y0 y1 y2 y3 y4 y5 y6 y7 K).mpr ?_⟩
  refine selC_m hs hp.a hq.a ?_
  intro a b c d k1
  refine selC_m hs hp.b hq.b ?_
  intro e f g h k2
  exact hK _ _ _ _ _ _ _ _ (seE_of k1 k2 hp.ok hq.ok)
 ·exact h.elim
def kSlE:Ef Tryz.prog:=mkE mixed 38 Tryz.func38 (by decide) (by kernel_rfl) [] [.ptr 8 false,.num,.ptr 8 true,.ptr 8 true] gSlE sle_good sle_ok
def cxMe:Cx Tryz.prog:= { rds:= [],efs:= [kSet,kMulA],eqs:= [] }
theorem vc_me (x0 x1 x2 x3 x4 x5 x6 x7 y0 y1 y2 y3:Int) (K:SV→Mem→Prop):execF cxMe u9 Tryz.f78 64 [.ptr 1 (.lit 0),.ptr 1 (.lit 0),.ptr 9 (.lit 0)] (memL [(1,⟨false,w8 x0 x1 x2 x3 x4 x5 x6 x7⟩),(9,⟨true,w4 y0 y1 y2 y3⟩)]) K=
 mulC x0 x1 x2 x3 y0 y1 y2 y3 fun a b c d=>mulC x4 x5 x6 x7 y0 y1 y2 y3 fun e f g h=>K (.ptr 1 (.lit 0)) (memL [(1,⟨false,w8 a b c d e f g h⟩),(9,⟨true,w4 y0 y1 y2 y3⟩),(521,⟨false,w4 y0 y1 y2 y3⟩)]):=by kernel_rfl
def meE (p:F2) (y:Nat):F2:=⟨mq p.a y,mq p.b y⟩
theorem meE_ok (p:F2) (y:Nat):(meE p y).ok:=⟨mq_lt _ _,mq_lt _ _⟩
def gMe:G0:=fun args l K=>
 match args,l with
 | [.ptr 1 (.lit 0),.ptr 1 (.lit 0),.ptr 9 (.lit 0)],[(1,⟨false,x⟩),(9,⟨true,y⟩)]=>c8 x fun x0 x1 x2 x3 x4 x5 x6 x7=>c4 y fun y0 y1 y2 y3=>∃p y,(Ep x0 x1 x2 x3 x4 x5 x6 x7 p∧El y0 y1 y2 y3 (mont y))∧∀j0 j1 j2 j3 j4 j5 j6 j7,Ep j0 j1 j2 j3 j4 j5 j6 j7 (meE p y)→K (.ptr 1 (.lit 0)) (memL [(1,⟨false,w8 j0 j1 j2 j3 j4 j5 j6 j7⟩),(9,⟨true,w4 y0 y1 y2 y3⟩)])
 | _,_=>False
theorem me_good:Good gMe:=by
 constructor
 ·intro args l K K' hk h
  unfold gMe at h ⊢
  split at h
  ·exact c8_mono (fun _ _ _ _ _ _ _ _ h=>c4_mono (fun _ _ _ _ h=>h.elim fun p h=>h.elim fun q h=>⟨p,q,h.1,fun j0 j1 j2 j3 j4 j5 j6 j7 e=>hk _ _ (h.2 j0 j1 j2 j3 j4 j5 j6 j7 e)⟩) h) h
  ·exact h.elim
 ·intro args l K h
  unfold gMe at h
  split at h
  ·obtain ⟨_,_,_,_,_,_,_,_,_,h⟩:=c8_ex h
   obtain ⟨_,_,_,_,_,h⟩:=c4_ex h
   obtain ⟨p,y,_,h⟩:=h
   obtain ⟨j0,j1,j2,j3,j4,j5,j6,j7,e⟩:=Ep.ex (meE_ok p y)
   exact ⟨_,_,h _ _ _ _ _ _ _ _ e⟩
  ·exact h.elim
theorem me_ok (args:List SV) (l:List (Nat×Reg)) (K:SV→Mem→Prop) (hup:KUp K) (h:gMe args l K):∃U,execF cxMe U Tryz.f78 64 args (memL l) K:=by
 unfold gMe at h
 split at h
 ·obtain ⟨x0,x1,x2,x3,x4,x5,x6,x7,rfl,h0⟩:=c8_ex h
  obtain ⟨y0,y1,y2,y3,rfl,p,y,⟨hp,hy⟩,hK⟩:=c4_ex h0
  refine ⟨u9,(vc_me x0 x1 x2 x3 x4 x5 x6 x7 y0 y1 y2 y3 K).mpr ?_⟩
  refine mulC_q hp.a hy ?_
  intro a b c d h1
  refine mulC_q hp.b hy ?_
  intro e f g h h2
  exact hup.le (memL_sub [1,9,521] rfl (by decide) (by
   intro x hx
   simp only[List.mem_cons,List.not_mem_nil,or_false]at hx ⊢
   rcases hx with rfl | rfl<;>simp)) (hK _ _ _ _ _ _ _ _ ⟨h1,h2,mq_lt _ _,mq_lt _ _⟩)
 ·exact h.elim
def kMe:Ef Tryz.prog:=mkE mixed 78 Tryz.func78 (by decide) (by kernel_rfl) [] [.ptr 8 false,.ptr 8 true,.ptr 4 true] gMe me_good me_ok
def PmC (x0 x1 x2 x3:Int) (K:SV→Mem→Prop):Prop:=
 mulC x0 x1 x2 x3 x0 x1 x2 x3 fun a0 b0 c0 d0=>mulC x0 x1 x2 x3 a0 b0 c0 d0 fun a1 b1 c1 d1=>mulC a0 b0 c0 d0 a1 b1 c1 d1 fun a2 b2 c2 d2=>mulC x0 x1 x2 x3 a2 b2 c2 d2 fun a3 b3 c3 d3=>
 mulC a0 b0 c0 d0 a3 b3 c3 d3 fun a4 b4 c4 d4=>mulC a2 b2 c2 d2 a4 b4 c4 d4 fun a5 b5 c5 d5=>mulC a2 b2 c2 d2 a5 b5 c5 d5 fun a6 b6 c6 d6=>mulC x0 x1 x2 x3 a6 b6 c6 d6 fun a7 b7 c7 d7=>
 mulC x0 x1 x2 x3 a7 b7 c7 d7 fun a8 b8 c8 d8=>mulC a1 b1 c1 d1 a8 b8 c8 d8 fun a9 b9 c9 d9=>mulC a2 b2 c2 d2 a9 b9 c9 d9 fun a10 b10 c10 d10=>mulC a5 b5 c5 d5 a7 b7 c7 d7 fun a11 b11 c11 d11=>
 mulC a1 b1 c1 d1 a11 b11 c11 d11 fun a12 b12 c12 d12=>mulC a4 b4 c4 d4 a12 b12 c12 d12 fun a13 b13 c13 d13=>mulC a7 b7 c7 d7 a10 b10 c10 d10 fun a14 b14 c14 d14=>mulC a6 b6 c6 d6 a14 b14 c14 d14 fun a15 b15 c15 d15=>
 mulC a6 b6 c6 d6 a15 b15 c15 d15 fun a16 b16 c16 d16=>mulC a4 b4 c4 d4 a16 b16 c16 d16 fun a17 b17 c17 d17=>mulC a3 b3 c3 d3 a17 b17 c17 d17 fun a18 b18 c18 d18=>mulC a8 b8 c8 d8 a18 b18 c18 d18 fun a19 b19 c19 d19=>
 mulC a10 b10 c10 d10 a19 b19 c19 d19 fun a20 b20 c20 d20=>mulC a11 b11 c11 d11 a19 b19 c19 d19 fun a21 b21 c21 d21=>mulC a11 b11 c11 d11 a21 b21 c21 d21 fun a22 b22 c22 d22=>mulC a3 b3 c3 d3 a22 b22 c22 d22 fun a23 b23 c23 d23=>
 mulC a3 b3 c3 d3 a23 b23 c23 d23 fun a24 b24 c24 d24=>mulC a0 b0 c0 d0 a24 b24 c24 d24 fun a25 b25 c25 d25=>mulC a6 b6 c6 d6 a24 b24 c24 d24 fun a26 b26 c26 d26=>mulC a11 b11 c11 d11 a24 b24 c24 d24 fun a27 b27 c27 d27=>
 mulC a0 b0 c0 d0 a27 b27 c27 d27 fun a28 b28 c28 d28=>mulC a3 b3 c3 d3 a27 b27 c27 d27 fun a29 b29 c29 d29=>sqs 8 a24 b24 c24 d24 fun a30 b30 c30 d30=>mulC a20 b20 c20 d20 a30 b30 c30 d30 fun a31 b31 c31 d31=>
 sqs 10 a31 b31 c31 d31 fun a32 b32 c32 d32=>mulC a29 b29 c29 d29 a32 b32 c32 d32 fun a33 b33 c33 d33=>sqs 7 a33 b33 c33 d33 fun a34 b34 c34 d34=>mulC a9 b9 c9 d9 a34 b34 c34 d34 fun a35 b35 c35 d35=>
 sqs 9 a35 b35 c35 d35 fun a36 b36 c36 d36=>mulC a7 b7 c7 d7 a36 b36 c36 d36 fun a37 b37 c37 d37=>sqs 7 a37 b37 c37 d37 fun a38 b38 c38 d38=>mulC a5 b5 c5 d5 a38 b38 c38 d38 fun a39 b39 c39 d39=>
 sqs 14 a39 b39 c39 d39 fun a40 b40 c40 d40=>mulC a16 b16 c16 d16 a40 b40 c40 d40 fun a41 b41 c41 d41=>sqs 9 a41 b41 c41 d41 fun a42 b42 c42 d42=>mulC a27 b27 c27 d27 a42 b42 c42 d42 fun a43 b43 c43 d43=>
 sqs 8 a43 b43 c43 d43 fun a44 b44 c44 d44=>mulC a15 b15 c15 d15 a44 b44 c44 d44 fun a45 b45 c45 d45=>sqs 10 a45 b45 c45 d45 fun a46 b46 c46 d46=>mulC a17 b17 c17 d17 a46 b46 c46 d46 fun a47 b47 c47 d47=>
 sqs 5 a47 b47 c47 d47 fun a48 b48 c48 d48=>mulC a5 b5 c5 d5 a48 b48 c48 d48 fun a49 b49 c49 d49=>sqs 8 a49 b49 c49 d49 fun a50 b50 c50 d50=>mulC a1 b1 c1 d1 a50 b50 c50 d50 fun a51 b51 c51 d51=>
 sqs 12 a51 b51 c51 d51 fun a52 b52 c52 d52=>mulC a13 b13 c13 d13 a52 b52 c52 d52 fun a53 b53 c53 d53=>sqs 12 a53 b53 c53 d53 fun a54 b54 c54 d54=>mulC a23 b23 c23 d23 a54 b54 c54 d54 fun a55 b55 c55 d55=>
 sqs 8 a55 b55 c55 d55 fun a56 b56 c56 d56=>mulC a14 b14 c14 d14 a56 b56 c56 d56 fun a57 b57 c57 d57=>sqs 14 a57 b57 c57 d57 fun a58 b58 c58 d58=>mulC a22 b22 c22 d22 a58 b58 c58 d58 fun a59 b59 c59 d59=>
 sqs 9 a59 b59 c59 d59 fun a60 b60 c60 d60=>mulC a20 b20 c20 d20 a60 b60 c60 d60 fun a61 b61 c61 d61=>sqs 5 a61 b61 c61 d61 fun a62 b62 c62 d62=>mulC a5 b5 c5 d5 a62 b62 c62 d62 fun a63 b63 c63 d63=>
 sqs 12 a63 b63 c63 d63 fun a64 b64 c64 d64=>mulC a28 b28 c28 d28 a64 b64 c64 d64 fun a65 b65 c65 d65=>sqs 8 a65 b65 c65 d65 fun a66 b66 c66 d66=>mulC a21 b21 c21 d21 a66 b66 c66 d66 fun a67 b67 c67 d67=>
 sqs 11 a67 b67 c67 d67 fun a68 b68 c68 d68=>mulC a26 b26 c26 d26 a68 b68 c68 d68 fun a69 b69 c69 d69=>sqs 7 a69 b69 c69 d69 fun a70 b70 c70 d70=>mulC a18 b18 c18 d18 a70 b70 c70 d70 fun a71 b71 c71 d71=>
 sqs 11 a71 b71 c71 d71 fun a72 b72 c72 d72=>mulC a12 b12 c12 d12 a72 b72 c72 d72 fun a73 b73 c73 d73=>sqs 12 a73 b73 c73 d73 fun a74 b74 c74 d74=>mulC a17 b17 c17 d17 a74 b74 c74 d74 fun a75 b75 c75 d75=>
 sqs 9 a75 b75 c75 d75 fun a76 b76 c76 d76=>mulC a25 b25 c25 d25 a76 b76 c76 d76 fun a77 b77 c77 d77=>sqs 8 a77 b77 c77 d77 fun a78 b78 c78 d78=>mulC a29 b29 c29 d29 a78 b78 c78 d78 fun a79 b79 c79 d79=>
 sqs 7 a79 b79 c79 d79 fun a80 b80 c80 d80=>mulC a19 b19 c19 d19 a80 b80 c80 d80 fun a81 b81 c81 d81=>sqs 4 a81 b81 c81 d81 fun a82 b82 c82 d82=>mulC x0 x1 x2 x3 a82 b82 c82 d82 fun a83 b83 c83 d83=>
 K (.ptr 1 (.lit 0)) (memL [(1,⟨false,w4 a83 b83 c83 d83⟩),(513,⟨false,w4 x0 x1 x2 x3⟩),(529,⟨false,w4 a80 b80 c80 d80⟩),(537,⟨false,w4 a78 b78 c78 d78⟩),(545,⟨false,w4 a76 b76 c76 d76⟩),(553,⟨false,w4 a74 b74 c74 d74⟩),(561,⟨false,w4 a72 b72 c72 d72⟩),(569,⟨false,w4 a70 b70 c70 d70⟩),(577,⟨false,w4 a68 b68 c68 d68⟩),(585,⟨false,w4 a66 b66 c66 d66⟩),(593,⟨false,w4 a64 b64 c64 d64⟩),(601,⟨false,w4 a62 b62 c62 d62⟩),(609,⟨false,w4 a60 b60 c60 d60⟩),(617,⟨false,w4 a58 b58 c58 d58⟩),(625,⟨false,w4 a56 b56 c56 d56⟩),(633,⟨false,w4 a54 b54 c54 d54⟩),(641,⟨false,w4 a52 b52 c52 d52⟩),(649,⟨false,w4 a50 b50 c50 d50⟩),(657,⟨false,w4 a44 b44 c44 d44⟩),(665,⟨false,w4 a42 b42 c42 d42⟩),(673,⟨false,w4 a40 b40 c40 d40⟩),(681,⟨false,w4 a36 b36 c36 d36⟩),(689,⟨false,w4 a34 b34 c34 d34⟩)])
theorem vc_pm (z0 z1 z2 z3 x0 x1 x2 x3:Int) (K:SV→Mem→Prop):execF cxEs uEs Tryz.f87 64 [.ptr 1 (.lit 0),ag4 x0 x1 x2 x3] (memL [(1,⟨false,w4 z0 z1 z2 z3⟩)]) K=PmC x0 x1 x2 x3 K:=by kernel_rfl
theorem pm_walk {X:Nat} {x0 x1 x2 x3:Int} {K:SV→Mem→Prop} (hup:KUp K) (hx:EP X 1 x0 x1 x2 x3) (hK:∀y0 y1 y2 y3,EP X e3N y0 y1 y2 y3→K (.ptr 1 (.lit 0)) (memL [(1,⟨false,w4 y0 y1 y2 y3⟩)])):
  PmC x0 x1 x2 x3 K:=by
 unfold PmC
 refine mulC_e (g:=2) hx hx rfl ?_
 intro a0 b0 c0 d0 h0
 refine mulC_e (g:=3) hx h0 rfl ?_
 intro a1 b1 c1 d1 h1
 refine mulC_e (g:=5) h0 h1 rfl ?_
 intro a2 b2 c2 d2 h2
 refine mulC_e (g:=6) hx h2 rfl ?_
 intro a3 b3 c3 d3 h3
 refine mulC_e (g:=8) h0 h3 rfl ?_
 intro a4 b4 c4 d4 h4
 refine mulC_e (g:=13) h2 h4 rfl ?_
 intro a5 b5 c5 d5 h5
 refine mulC_e (g:=18) h2 h5 rfl ?_
 intro a6 b6 c6 d6 h6
 refine mulC_e (g:=19) hx h6 rfl ?_
 intro a7 b7 c7 d7 h7
 refine mulC_e (g:=20) hx h7 rfl ?_
 intro a8 b8 c8 d8 h8
 refine mulC_e (g:=23) h1 h8 rfl ?_
 intro a9 b9 c9 d9 h9
 refine mulC_e (g:=28) h2 h9 rfl ?_
 intro a10 b10 c10 d10 h10
 refine mulC_e (g:=32) h5 h7 rfl ?_
 intro a11 b11 c11 d11 h11
 refine mulC_e (g:=35) h1 h11 rfl ?_
 intro a12 b12 c12 d12 h12
 refine mulC_e (g:=43) h4 h12 rfl ?_
 intro a13 b13 c13 d13 h13
 refine mulC_e (g:=47) h7 h10 rfl ?_
 intro a14 b14 c14 d14 h14
 refine mulC_e (g:=65) h6 h14 rfl ?_
 intro a15 b15 c15 d15 h15
 refine mulC_e (g:=83) h6 h15 rfl ?_
 intro a16 b16 c16 d16 h16
 refine mulC_e (g:=91) h4 h16 rfl ?_
 intro a17 b17 c17 d17 h17
 refine mulC_e (g:=97) h3 h17 rfl ?_
 intro a18 b18 c18 d18 h18
 refine mulC_e (g:=117) h8 h18 rfl ?_
 intro a19 b19 c19 d19 h19
 refine mulC_e (g:=145) h10 h19 rfl ?_
 intro a20 b20 c20 d20 h20
 refine mulC_e (g:=149) h11 h19 rfl ?_
 intro a21 b21 c21 d21 h21
 refine mulC_e (g:=181) h11 h21 rfl ?_
 intro a22 b22 c22 d22 h22
 refine mulC_e (g:=187) h3 h22 rfl ?_
 intro a23 b23 c23 d23 h23
 refine mulC_e (g:=193) h3 h23 rfl ?_
 intro a24 b24 c24 d24 h24
 refine mulC_e (g:=195) h0 h24 rfl ?_
 intro a25 b25 c25 d25 h25
 refine mulC_e (g:=211) h6 h24 rfl ?_
 intro a26 b26 c26 d26 h26
 refine mulC_e (g:=225) h11 h24 rfl ?_
 intro a27 b27 c27 d27 h27
 refine mulC_e (g:=227) h0 h27 rfl ?_
 intro a28 b28 c28 d28 h28
 refine mulC_e (g:=231) h3 h27 rfl ?_
 intro a29 b29 c29 d29 h29
 refine sqs_e (g:=49408) h24 rfl ?_
 intro a30 b30 c30 d30 h30
 refine mulC_e (g:=49553) h20 h30 rfl ?_
 intro a31 b31 c31 d31 h31
 refine sqs_e (g:=50742272) h31 rfl ?_
 intro a32 b32 c32 d32 h32
 refine mulC_e (g:=50742503) h29 h32 rfl ?_
 intro a33 b33 c33 d33 h33
 refine sqs_e (g:=6495040384) h33 rfl ?_
 intro a34 b34 c34 d34 h34
 refine mulC_e (g:=6495040407) h9 h34 rfl ?_
 intro a35 b35 c35 d35 h35
 refine sqs_e (g:=3325460688384) h35 rfl ?_
 intro a36 b36 c36 d36 h36
 refine mulC_e (g:=3325460688403) h7 h36 rfl ?_
 intro a37 b37 c37 d37 h37
 refine sqs_e (g:=425658968115584) h37 rfl ?_
 intro a38 b38 c38 d38 h38
 refine mulC_e (g:=425658968115597) h5 h38 rfl ?_
 intro a39 b39 c39 d39 h39
 refine sqs_e (g:=6973996533605941248) h39 rfl ?_
 intro a40 b40 c40 d40 h40
 refine mulC_e (g:=6973996533605941331) h16 h40 rfl ?_
 intro a41 b41 c41 d41 h41
 refine sqs_e (g:=3570686225206241961472) h41 rfl ?_
 intro a42 b42 c42 d42 h42
 refine mulC_e (g:=3570686225206241961697) h27 h42 rfl ?_
 intro a43 b43 c43 d43 h43
 refine sqs_e (g:=914095673652797942194432) h43 rfl ?_
 intro a44 b44 c44 d44 h44
 refine mulC_e (g:=914095673652797942194497) h15 h44 rfl ?_
 intro a45 b45 c45 d45 h45
 refine sqs_e (g:=936033969820465092807164928) h45 rfl ?_
 intro a46 b46 c46 d46 h46
 refine mulC_e (g:=936033969820465092807165019) h17 h46 rfl ?_
 intro a47 b47 c47 d47 h47
 refine sqs_e (g:=29953087034254882969829280608) h47 rfl ?_
 intro a48 b48 c48 d48 h48
 refine mulC_e (g:=29953087034254882969829280621) h5 h48 rfl ?_
 intro a49 b49 c49 d49 h49
 refine sqs_e (g:=7667990280769250040276295838976) h49 rfl ?_
 intro a50 b50 c50 d50 h50
 refine mulC_e (g:=7667990280769250040276295838979) h1 h50 rfl ?_
 intro a51 b51 c51 d51 h51
 refine sqs_e (g:=31408088190030848164971707756457984) h51 rfl ?_
 intro a52 b52 c52 d52 h52
 refine mulC_e (g:=31408088190030848164971707756458027) h13 h52 rfl ?_
 intro a53 b53 c53 d53 h53
 refine sqs_e (g:=128647529226366354083724114970452078592) h53 rfl ?_
 intro a54 b54 c54 d54 h54
 refine mulC_e (g:=128647529226366354083724114970452078779) h23 h54 rfl ?_
 intro a55 b55 c55 d55 h55
 refine sqs_e (g:=32933767481949786645433373432435732167424) h55 rfl ?_
 intro a56 b56 c56 d56 h56
 refine mulC_e (g:=32933767481949786645433373432435732167471) h14 h56 rfl ?_
 intro a57 b57 c57 d57 h57
 refine sqs_e (g:=539586846424265304398780390317027035831844864) h57 rfl ?_
 intro a58 b58 c58 d58 h58
 refine mulC_e (g:=539586846424265304398780390317027035831845045) h22 h58 rfl ?_
 intro a59 b59 c59 d59 h59
 refine sqs_e (g:=276268465369223835852175559842317842345904663040) h59 rfl ?_
 intro a60 b60 c60 d60 h60
 refine mulC_e (g:=276268465369223835852175559842317842345904663185) h20 h60 rfl ?_
 intro a61 b61 c61 d61 h61
 refine sqs_e (g:=8840590891815162747269617914954170955068949221920) h61 rfl ?_
 intro a62 b62 c62 d62 h62
 refine mulC_e (g:=8840590891815162747269617914954170955068949221933) h5 h62 rfl ?_
 intro a63 b63 c63 d63 h63
 refine sqs_e (g:=36211060292874906612816354979652284231962416013037568) h63 rfl ?_
 intro a64 b64 c64 d64 h64
 refine mulC_e (g:=36211060292874906612816354979652284231962416013037795) h28 h64 rfl ?_
 intro a65 b65 c65 d65 h65
 refine sqs_e (g:=9270031434975976092880986874790984763382378499337675520) h65 rfl ?_
 intro a66 b66 c66 d66 h66
 refine mulC_e (g:=9270031434975976092880986874790984763382378499337675669) h21 h66 rfl ?_
 intro a67 b67 c67 d67 h67
 refine sqs_e (g:=18985024378830799038220261119571936795407111166643559770112) h67 rfl ?_
 intro a68 b68 c68 d68 h68
 refine mulC_e (g:=18985024378830799038220261119571936795407111166643559770323) h26 h68 rfl ?_
 intro a69 b69 c69 d69 h69
 refine sqs_e (g:=2430083120490342276892193423305207909812110229330375650601344) h69 rfl ?_
 intro a70 b70 c70 d70 h70
 refine mulC_e (g:=2430083120490342276892193423305207909812110229330375650601441) h18 h70 rfl ?_
 intro a71 b71 c71 d71 h71
 refine sqs_e (g:=4976810230764220983075212130929065799295201749668609332431751168) h71 rfl ?_
 intro a72 b72 c72 d72 h72
 refine mulC_e (g:=4976810230764220983075212130929065799295201749668609332431751203) h12 h72 rfl ?_
 intro a73 b73 c73 d73 h73
 refine sqs_e (g:=20385014705210249146676068888285453513913146366642623825640452927488) h73 rfl ?_
 intro a74 b74 c74 d74 h74
 refine mulC_e (g:=20385014705210249146676068888285453513913146366642623825640452927579) h17 h74 rfl ?_
 intro a75 b75 c75 d75 h75
 refine sqs_e (g:=10437127529067647563098147270802152199123530939721023398727911898920448) h75 rfl ?_
 intro a76 b76 c76 d76 h76
 refine mulC_e (g:=10437127529067647563098147270802152199123530939721023398727911898920643) h25 h76 rfl ?_
 intro a77 b77 c77 d77 h77
 refine sqs_e (g:=2671904647441317776153125701325350962975623920568581990074345446123684608) h77 rfl ?_
 intro a78 b78 c78 d78 h78
 refine mulC_e (g:=2671904647441317776153125701325350962975623920568581990074345446123684839) h29 h78 rfl ?_
 intro a79 b79 c79 d79 h79
 refine sqs_e (g:=342003794872488675347600089769644923260879861832778494729516217103831659392) h79 rfl ?_
 intro a80 b80 c80 d80 h80
 refine mulC_e (g:=342003794872488675347600089769644923260879861832778494729516217103831659509) h19 h80 rfl ?_
 intro a81 b81 c81 d81 h81
 refine sqs_e (g:=5472060717959818805561601436314318772174077789324455915672259473661306552144) h81 rfl ?_
 intro a82 b82 c82 d82 h82
 refine mulC_e (g:=5472060717959818805561601436314318772174077789324455915672259473661306552145) hx h82 rfl ?_
 intro a83 b83 c83 d83 h83
 refine hup.le (memL_sub [1,513,529,537,545,553,561,569,577,585,593,601,609,617,625,633,641,649,657,665,673,681,689] rfl (by decide) (by
  intro x hx
  simp only[List.mem_cons,List.not_mem_nil,or_false]at hx ⊢
  simp[hx])) (hK _ _ _ _ h83)
theorem EP.pm {X:Nat} {a b c d:Int} (h:EP X e3N a b c d):El a b c d (mont (pmN X)):=by
 rw[pmN_eq,mont_mod]
 exact h
theorem EP.of_pm {X:Nat} {a b c d:Int} (h:El a b c d (mont (pmN X))):EP X e3N a b c d:=by
 rw[pmN_eq,mont_mod]at h
 exact h
def gPm:G0:=fun args l K=>
 match args,l with
 | [.ptr 1 (.lit 0),.agg [.int .u64 (.sym a0),.int .u64 (.sym a1),.int .u64 (.sym a2),.int .u64 (.sym a3)]],[(1,⟨false,z⟩)]=>c4 z fun _ _ _ _=>∃X,El a0 a1 a2 a3 (mont X)∧∀y0 y1 y2 y3,El y0 y1 y2 y3 (mont (pmN X))→K (.ptr 1 (.lit 0)) (memL [(1,⟨false,w4 y0 y1 y2 y3⟩)])
 | _,_=>False
theorem pm_good:Good gPm:=by
 constructor
 ·intro args l K K' hk h
  unfold gPm at h ⊢
  split at h
  ·exact c4_mono (fun _ _ _ _ h=>h.elim fun X h=>⟨X,h.1,fun y0 y1 y2 y3 hy=>hk _ _ (h.2 y0 y1 y2 y3 hy)⟩) h
  ·exact h.elim
 ·intro args l K h
  unfold gPm at h
  split at h
  ·obtain ⟨_,_,_,_,_,h⟩:=c4_ex h
   obtain ⟨X,_,h⟩:=h
   exact ⟨_,_,h _ _ _ _ (El.of (mont_lt _))⟩
  ·exact h.elim
theorem pm_ok (args:List SV) (l:List (Nat×Reg)) (K:SV→Mem→Prop) (hup:KUp K) (h:gPm args l K):∃U,execF cxEs U Tryz.f87 64 args (memL l) K:=by
 unfold gPm at h
 split at h
 ·rename_i a0 a1 a2 a3 zz
  obtain ⟨z0,z1,z2,z3,rfl,q0⟩:=c4_ex h
  obtain ⟨X,hx,hK⟩:=q0
  have hx:EP X 1 a0 a1 a2 a3:=by unfold EP;rw[Nat.pow_one];exact hx
  refine ⟨uEs,?_⟩
  have:=vc_pm z0 z1 z2 z3 a0 a1 a2 a3 K
  unfold ag4 at this
  rw[this]
  exact pm_walk hup hx fun y0 y1 y2 y3 hy=>hK y0 y1 y2 y3 hy.pm
 ·exact h.elim
def kPm:Ef Tryz.prog:=mkE mixed 87 Tryz.func87 (by decide) (by kernel_rfl) [] [.ptr 4 false,.num] gPm pm_good pm_ok
end Go.Sx
namespace Go.Sx
open Go Go.Proofs
set_option maxRecDepth 100000
theorem fold_acc (l:List Int):∀a:Nat,l.foldl (fun a b=>a*256+b.toNat) a=a*256 ^ l.length+l.foldl (fun a b=>a*256+b.toNat) 0:=by
 induction l with
 | nil=>intro a;simp
 | cons x l ih=>
  intro a
  rw[List.foldl_cons,List.foldl_cons,ih,ih (0*256+x.toNat),List.length_cons,Nat.pow_succ,Nat.add_mul,Nat.zero_mul,Nat.zero_add,Nat.mul_assoc,Nat.mul_comm 256,Nat.add_assoc]
theorem beN_app (l m:List Int):beN (l++m)=beN l*256 ^ m.length+beN m:=by
 unfold beN
 rw[List.foldl_append,fold_acc m]
theorem beN_8 (a b c d e f g h:Int):beN [a,b,c,d,e,f,g,h]=a.toNat*72057594037927936+b.toNat*281474976710656+c.toNat*1099511627776+d.toNat*4294967296+e.toNat*16777216+f.toNat*65536+g.toNat*256+h.toNat:=by
 unfold beN
 simp only[List.foldl]
 omega
theorem list8 {l:List Int} (h:l.length=8):l= [l.getD 0 0,l.getD 1 0,l.getD 2 0,l.getD 3 0,l.getD 4 0,l.getD 5 0,l.getD 6 0,l.getD 7 0]:=by
 match l,h with
 | [a,b,c,d,e,f,g,h],_=>rfl
theorem p56 {k:Nat} (hk:k≤56):(2:Int) ^ k≤72057594037927936:=by
 have h:(2:Nat) ^ k≤72057594037927936:=Nat.le_trans (Nat.pow_le_pow_right (by omega) hk) (by decide)
 have e:(2:Int) ^ k=((2 ^ k:Nat):Int):=by rw[Int.natCast_pow];rfl
 rw[e]
 omega
theorem shl64 {z:Int} {k:Nat} (h0:0≤z) (h1:z<256) (hk:k≤56):shlv .u64 z k=z*2 ^ k∧Wd (z*2 ^ k):=by
 have hp:=p56 hk
 have hq:(0:Int)<2 ^ k:=Int.pow_pos (by omega)
 have hl:z*2 ^ k≤255*2 ^ k:=Int.mul_le_mul_of_nonneg_right (by omega) (by omega)
 have hn:0≤z*2 ^ k:=Int.mul_nonneg h0 (by omega)
 have w:Wd (z*2 ^ k):=by unfold Wd;omega
 refine ⟨?_,w⟩
 unfold shlv
 rw[wu64,show min k IntKind.u64.bits=k by simp[IntKind.bits];omega]
 unfold Wd at w
 exact Int.emod_eq_of_lt w.1 w.2
theorem bstep {acc x:Int} {k:Nat} (ha:0≤acc) (hb:acc<2 ^ k) (h0:0≤x) (h1:x<256) (hk:k≤56):bor .u64 acc (shlv .u64 (IntKind.u64.wrap x) k)=acc+x*2 ^ k:=by
 rw[wu64,Int.emod_eq_of_lt h0 (by omega)]
 obtain ⟨e,w⟩:=shl64 h0 h1 hk
 have hp:=p56 hk
 rw[e,(bor_eq (by unfold Wd;omega) w).1]
 obtain ⟨a,rfl⟩:=Int.eq_ofNat_of_zero_le ha
 obtain ⟨y,rfl⟩:=Int.eq_ofNat_of_zero_le h0
 have e2:((y:Int)*2 ^ k).toNat=y <<< k:=by
  rw[Nat.shiftLeft_eq,show (y:Int)*2 ^ k=((y*2 ^ k:Nat):Int) by rw[Int.natCast_mul,Int.natCast_pow];rfl,Int.toNat_natCast]
 have hb':a<2 ^ k:=by
  have e:(2:Int) ^ k=((2 ^ k:Nat):Int):=by rw[Int.natCast_pow];rfl
  rw[e]at hb
  omega
 rw[e2,Int.toNat_natCast,Nat.or_comm,←Nat.shiftLeft_add_eq_or_of_lt hb',Nat.shiftLeft_eq]
 rw[Int.natCast_add,Int.natCast_mul,Int.natCast_pow,Int.add_comm]
 rfl
theorem byte_ofw {a:Int} (h:Wd a) (k:Nat) (hk:k≤56):IntKind.u8.wrap (shrv .u64 a k)=a / 2 ^ k%256:=by
 rw[shr64 h.1 (by omega)]
 rfl
theorem word8 {a:Int} (h:Wd a):(a / 72057594037927936%256).toNat*72057594037927936+(a / 281474976710656%256).toNat*281474976710656+(a / 1099511627776%256).toNat*1099511627776+(a / 4294967296%256).toNat*4294967296+(a / 16777216%256).toNat*16777216+(a / 65536%256).toNat*65536+(a / 256%256).toNat*256+(a / 1%256).toNat=a.toNat:=by
 unfold Wd at h
 have e1:a / 65536=a / 256 / 256:=by omega
 have e2:a / 16777216=a / 65536 / 256:=by omega
 have e3:a / 4294967296=a / 16777216 / 256:=by omega
 have e4:a / 1099511627776=a / 4294967296 / 256:=by omega
 have e5:a / 281474976710656=a / 1099511627776 / 256:=by omega
 have e6:a / 72057594037927936=a / 281474976710656 / 256:=by omega
 have l6:0≤a / 72057594037927936∧a / 72057594037927936<256:=by omega
 generalize a / 72057594037927936=q7 at *
 generalize a / 281474976710656=q6 at *
 generalize a / 1099511627776=q5 at *
 generalize a / 4294967296=q4 at *
 generalize a / 16777216=q3 at *
 generalize a / 65536=q2 at *
 rw[Int.ediv_one]
 have f0:0≤q6:=by omega
 have f1:0≤q5:=by omega
 have f2:0≤q4:=by omega
 have f3:0≤q3:=by omega
 have f4:0≤q2:=by omega
 have g (x:Int):((x%256).toNat:Int)=x%256:=by omega
 have h7:q7%256=q7:=by omega
 have h6:=Int.mul_ediv_add_emod q6 256
 have h5:=Int.mul_ediv_add_emod q5 256
 have h4:=Int.mul_ediv_add_emod q4 256
 have h3:=Int.mul_ediv_add_emod q3 256
 have h2:=Int.mul_ediv_add_emod q2 256
 have h1:=Int.mul_ediv_add_emod (a / 256) 256
 have h0:=Int.mul_ediv_add_emod a 256
 rw[←e6]at h6
 rw[←e5]at h5
 rw[←e4]at h4
 rw[←e3]at h3
 rw[←e2]at h2
 rw[←e1]at h1
 clear e1 e2 e3 e4 e5 e6
 have:=g q7
 have:=g q6
 have:=g q5
 have:=g q4
 have:=g q3
 have:=g q2
 have:=g (a / 256)
 have:=g a
 generalize q7%256=r7 at *
 generalize q6%256=r6 at *
 generalize q5%256=r5 at *
 generalize q4%256=r4 at *
 generalize q3%256=r3 at *
 generalize q2%256=r2 at *
 generalize a / 256%256=r1 at *
 generalize a / 256=q1 at *
 generalize a%256=r0 at *
 generalize r7.toNat=s7 at *
 generalize r6.toNat=s6 at *
 generalize r5.toNat=s5 at *
 generalize r4.toNat=s4 at *
 generalize r3.toNat=s3 at *
 generalize r2.toNat=s2 at *
 generalize r1.toNat=s1 at *
 generalize r0.toNat=s0 at *
 omega
end Go.Sx
namespace Go.Sx
open Go Go.Proofs Go.Num
set_option maxRecDepth 100000
def cxTm:Cx Tryz.prog:= { rds:= [cRsq],efs:= [kMulA],eqs:= [] }
theorem vc_tm (a0 a1 a2 a3:Int) (K:SV→Mem→Prop):(execF cxTm u9 Tryz.f156 64 [.ptr 1 (.lit 0)] (memL [(1,⟨false,w4 a0 a1 a2 a3⟩)]) K)=(∃(x0:Nat),
 (∃(y1:Nat),(((Ws a0 a1 a2 a3 x0)∧(El 17522657719365597833 13107472804851548667 5164255478447964150 493319470278259999 y1))∧(∀(r2:Nat),((r2=
 (((x0*y1)*20988524275117001072002809824448087578619730785600314334253784976379291040311)%qN))→(∀(y03:Int),(∀(y14:Int),(∀(y25:Int),
 (∀(y36:Int),((El y03 y14 y25 y36 r2)→(K (SV.ptr 1 (N.lit 0)) (memL [(1,(Reg.mk Bool.false (Ct.cells [(SV.int IntKind.u64 (A.sym y03)),(SV.int IntKind.u64
 (A.sym y14)),(SV.int IntKind.u64 (A.sym y25)),(SV.int IntKind.u64 (A.sym y36))]))),(529,(Reg.mk Bool.false (Ct.cells [(SV.int IntKind.u64 (A.lit 17522657719365597833)),
 (SV.int IntKind.u64 (A.lit 13107472804851548667)),(SV.int IntKind.u64 (A.lit 5164255478447964150)),(SV.int IntKind.u64 (A.lit 493319470278259999))])))])))))))))))):=by kernel_rfl def gTm:G0:=fun args l K=>
 match args,l with
 | [.ptr 1 (.lit 0)],[(1,⟨false,z⟩)]=>c4 z fun a0 a1 a2 a3=>∃X,Ws a0 a1 a2 a3 X∧∀r,r=mont X→∀y0 y1 y2 y3,El y0 y1 y2 y3 r→K (.ptr 1 (.lit 0)) (memL [(1,⟨false,w4 y0 y1 y2 y3⟩)])
 | _,_=>False
theorem tm_good:Good gTm:=by
 constructor
 ·intro args l K K' hk h
  unfold gTm at h ⊢
  split at h
  ·exact c4_mono (fun _ _ _ _ h=>h.elim fun X h=>⟨X,h.1,fun r hr y0 y1 y2 y3 hy=>hk _ _ (h.2 r hr y0 y1 y2 y3 hy)⟩) h
  ·exact h.elim
 ·intro args l K h
  unfold gTm at h
  split at h
  ·obtain ⟨_,_,_,_,_,h⟩:=c4_ex h
   obtain ⟨X,_,h⟩:=h
   exact ⟨_,_,h _ rfl _ _ _ _ (El.of (mont_lt X))⟩
  ·exact h.elim
theorem tm_ok (args:List SV) (l:List (Nat×Reg)) (K:SV→Mem→Prop) (hup:KUp K) (h:gTm args l K):∃U,execF cxTm U Tryz.f156 64 args (memL l) K:=by
 unfold gTm at h
 split at h
 ·obtain ⟨a0,a1,a2,a3,rfl,q0⟩:=c4_ex h
  obtain ⟨X,hx,hK⟩:=q0
  refine ⟨u9,?_⟩
  rw[vc_tm a0 a1 a2 a3]
  refine ⟨X,r2N,⟨hx,r2_el⟩,fun r hr y0 y1 y2 y3 hy=> ?_⟩
  exact hup.le (memL_sub [1,529] rfl (by decide) (by
    intro x hx
    simp only[List.mem_cons,List.not_mem_nil,or_false]at hx ⊢
    simp[hx,w4,U])) (hK r hr y0 y1 y2 y3 hy)
 ·exact h.elim
def kTm:Ef Tryz.prog:=mkE mixed 156 Tryz.func156 (by decide) (by kernel_rfl) [] [.ptr 4 false] gTm tm_good tm_ok
theorem vc_b8 (xs:List Int) (n c:Nat) (K:SV→Mem→Prop):(execF cxTm u9 Tryz.f155 64 [.slice 1 (.lit 0) (.sym n) (.sym c)] (memL [(1,⟨true,.ints .u8 xs⟩)]) K)=
 ((((0:Int)≤7)∧(7<((n:Nat):Int)))∧((8≤(List.length xs))∧(B1 (List.getD xs 7 0) fun x0=>B1 (IntKind.wrap IntKind.u64 x0) fun x1=>((((0:Int)≤6)
 ∧(6<((n:Nat):Int)))∧((7≤(List.length xs))∧(B1 (List.getD xs 6 0) fun x2=>B1 (IntKind.wrap IntKind.u64 x2) fun x3=>B1 (shlv IntKind.u64 x3 8) fun x4=>B1
 (bor IntKind.u64 x1 x4) fun x5=>((((0:Int)≤5)∧(5<((n:Nat):Int)))∧((6≤(List.length xs))∧(B1 (List.getD xs 5 0) fun x6=>B1 (IntKind.wrap IntKind.u64 x6) fun x7=>B1
 (shlv IntKind.u64 x7 16) fun x8=>B1 (bor IntKind.u64 x5 x8) fun x9=>((((0:Int)≤4)∧(4<((n:Nat):Int)))∧((5≤(List.length xs))∧(B1 (List.getD xs 4 0) fun x10=>B1
 (IntKind.wrap IntKind.u64 x10) fun x11=>B1 (shlv IntKind.u64 x11 24) fun x12=>B1 (bor IntKind.u64 x9 x12) fun x13=>((((0:Int)≤3)∧(3<((n:Nat):Int)))
 ∧((4≤(List.length xs))∧(B1 (List.getD xs 3 0) fun x14=>B1 (IntKind.wrap IntKind.u64 x14) fun x15=>B1 (shlv IntKind.u64 x15 32) fun x16=>B1
 (bor IntKind.u64 x13 x16) fun x17=>((((0:Int)≤2)∧(2<((n:Nat):Int)))∧((3≤(List.length xs))∧(B1 (List.getD xs 2 0) fun x18=>B1 (IntKind.wrap IntKind.u64 x18) fun x19=>B1
 (shlv IntKind.u64 x19 40) fun x20=>B1 (bor IntKind.u64 x17 x20) fun x21=>((((0:Int)≤1)∧(1<((n:Nat):Int)))∧((2≤(List.length xs))∧(B1
 (List.getD xs 1 0) fun x22=>B1 (IntKind.wrap IntKind.u64 x22) fun x23=>B1 (shlv IntKind.u64 x23 48) fun x24=>B1 (bor IntKind.u64 x21 x24) fun x25=>
 ((((0:Int)≤0)∧(0<((n:Nat):Int)))∧((1≤(List.length xs))∧(B1 (List.getD xs 0 0) fun x26=>B1 (IntKind.wrap IntKind.u64 x26) fun x27=>B1
 (shlv IntKind.u64 x27 56) fun x28=>B1 (bor IntKind.u64 x25 x28) fun x29=>(K (U x29) (memL [(1,(Reg.mk Bool.true (Ct.ints IntKind.u8 xs)))])))))))))))))))))))))))))):=by kernel_rfl
theorem getD_byte {xs:List Int} (h:∀b∈xs,0≤b∧b<256) {i:Nat} (hi:i<xs.length):0≤xs.getD i 0∧xs.getD i 0<256:=by
 rw[List.getD_eq_getElem?_getD,List.getElem?_eq_getElem hi,Option.getD_some]
 exact h _ (List.getElem_mem hi)
theorem b8_val {xs:List Int} (hl:xs.length=8) (h:∀b∈xs,0≤b∧b<256):beN xs=(xs.getD 0 0).toNat*72057594037927936+(xs.getD 1 0).toNat*281474976710656+(xs.getD 2 0).toNat*1099511627776+(xs.getD 3 0).toNat*4294967296+(xs.getD 4 0).toNat*16777216+(xs.getD 5 0).toNat*65536+(xs.getD 6 0).toNat*256+(xs.getD 7 0).toNat:=by
 rw[←beN_8,←list8 hl]
theorem fsum {c0 c1 c2 c3 c4 c5 c6 c7:Int} (h0:0≤c0) (h1:0≤c1) (h2:0≤c2) (h3:0≤c3) (h4:0≤c4) (h5:0≤c5) (h6:0≤c6) (h7:0≤c7):
  c7+c6*2 ^ 8+c5*2 ^ 16+c4*2 ^ 24+c3*2 ^ 32+c2*2 ^ 40+c1*2 ^ 48+c0*2 ^ 56=((c0.toNat*72057594037927936+c1.toNat*281474976710656+c2.toNat*1099511627776+c3.toNat*4294967296+c4.toNat*16777216+c5.toNat*65536+c6.toNat*256+c7.toNat:Nat):Int):=by
 obtain ⟨n0,rfl⟩:=Int.eq_ofNat_of_zero_le h0
 obtain ⟨n1,rfl⟩:=Int.eq_ofNat_of_zero_le h1
 obtain ⟨n2,rfl⟩:=Int.eq_ofNat_of_zero_le h2
 obtain ⟨n3,rfl⟩:=Int.eq_ofNat_of_zero_le h3
 obtain ⟨n4,rfl⟩:=Int.eq_ofNat_of_zero_le h4
 obtain ⟨n5,rfl⟩:=Int.eq_ofNat_of_zero_le h5
 obtain ⟨n6,rfl⟩:=Int.eq_ofNat_of_zero_le h6
 obtain ⟨n7,rfl⟩:=Int.eq_ofNat_of_zero_le h7
 clear h0 h1 h2 h3 h4 h5 h6 h7
 simp only[Int.toNat_natCast,Int.reducePow]
 omega
def rB8:R0:=fun args l=>
 match args,l with
 | [.slice 1 (.lit 0) (.sym n) (.sym c)],[(1,⟨true,.ints .u8 xs⟩)]=>some (some ((xs.length=8∧n=8)∧∀b∈xs,0≤b∧b<256),.int .u64 (.sym ((beN xs:Nat):Int)))
 | _,_=>none
theorem b8_ok (args:List SV) (l:List (Nat×Reg)) (p:Ob) (v:SV) (h:rB8 args l=some (p,v)) (hp:p.ok):∃U,execF cxTm U Tryz.f155 64 args (memL l) fun v' _=>v'=v:=by
 unfold rB8 at h
 split at h
 ·rename_i n c xs
  simp only[Option.some.injEq,Prod.mk.injEq]at h
  obtain ⟨rfl,rfl⟩:=h
  obtain ⟨⟨hl,rfl⟩,hb⟩:=(show (xs.length=8∧n=8)∧∀b∈xs,0≤b∧b<256 from hp)
  refine ⟨u9,?_⟩
  rw[vc_b8]
  have g0:=getD_byte hb (i:=0) (by omega)
  have g1:=getD_byte hb (i:=1) (by omega)
  have g2:=getD_byte hb (i:=2) (by omega)
  have g3:=getD_byte hb (i:=3) (by omega)
  have g4:=getD_byte hb (i:=4) (by omega)
  have g5:=getD_byte hb (i:=5) (by omega)
  have g6:=getD_byte hb (i:=6) (by omega)
  have g7:=getD_byte hb (i:=7) (by omega)
  have e:=b8_val hl hb
  have w7:IntKind.u64.wrap (xs.getD 7 0)=xs.getD 7 0:=by rw[wu64];omega
  have s6:=bstep (acc:=xs.getD 7 0) (k:=8) g7.1 (by omega) g6.1 g6.2 (by omega)
  have s5:=bstep (acc:=xs.getD 7 0+xs.getD 6 0*2 ^ 8) (k:=16) (by omega) (by omega) g5.1 g5.2 (by omega)
  have s4:=bstep (acc:=xs.getD 7 0+xs.getD 6 0*2 ^ 8+xs.getD 5 0*2 ^ 16) (k:=24) (by omega) (by omega) g4.1 g4.2 (by omega)
  have s3:=bstep (acc:=xs.getD 7 0+xs.getD 6 0*2 ^ 8+xs.getD 5 0*2 ^ 16+xs.getD 4 0*2 ^ 24) (k:=32) (by omega) (by omega) g3.1 g3.2 (by omega)
  have s2:=bstep (acc:=xs.getD 7 0+xs.getD 6 0*2 ^ 8+xs.getD 5 0*2 ^ 16+xs.getD 4 0*2 ^ 24+xs.getD 3 0*2 ^ 32) (k:=40) (by omega) (by omega) g2.1 g2.2 (by omega)
  have s1:=bstep (acc:=xs.getD 7 0+xs.getD 6 0*2 ^ 8+xs.getD 5 0*2 ^ 16+xs.getD 4 0*2 ^ 24+xs.getD 3 0*2 ^ 32+xs.getD 2 0*2 ^ 40) (k:=48) (by omega) (by omega) g1.1 g1.2 (by omega)
  have s0:=bstep (acc:=xs.getD 7 0+xs.getD 6 0*2 ^ 8+xs.getD 5 0*2 ^ 16+xs.getD 4 0*2 ^ 24+xs.getD 3 0*2 ^ 32+xs.getD 2 0*2 ^ 40+xs.getD 1 0*2 ^ 48) (k:=56) (by omega) (by omega) g0.1 g0.2 (by omega)
  generalize xs.getD 7 0=c7 at *
  generalize xs.getD 6 0=c6 at *
  generalize xs.getD 5 0=c5 at *
  generalize xs.getD 4 0=c4' at *
  generalize xs.getD 3 0=c3 at *
  generalize xs.getD 2 0=c2 at *
  generalize xs.getD 1 0=c1 at *
  generalize xs.getD 0 0=c0 at *
  simp only[B1_eq]
  rw[w7,s6,s5,s4,s3,s2,s1,s0]
  refine ⟨⟨by omega,by omega⟩,by omega,⟨by omega,by omega⟩,by omega,⟨by omega,by omega⟩,by omega,⟨by omega,by omega⟩,by omega,⟨by omega,by omega⟩,by omega,⟨by omega,by omega⟩,by omega,⟨by omega,by omega⟩,by omega,⟨by omega,by omega⟩,by omega,?_⟩
  have f:c7+c6*2 ^ 8+c5*2 ^ 16+c4'*2 ^ 24+c3*2 ^ 32+c2*2 ^ 40+c1*2 ^ 48+c0*2 ^ 56=((beN xs:Nat):Int):=by
   rw[e]
   exact fsum g0.1 g1.1 g2.1 g3.1 g4.1 g5.1 g6.1 g7.1
  rw[f]
  clear s0 s1 s2 s3 s4 s5 s6 w7 e f g0 g1 g2 g3 g4 g5 g6 g7
  rfl
 ·cases h
def cB8:Rd Tryz.prog:=mkR mixed 155 Tryz.func155 (by decide) (by kernel_rfl) [] [.sl 1 true] rB8 b8_ok
def cxOc:Cx Tryz.prog:= { rds:= [cBits],efs:= [],eqs:= [] }
theorem vc_oct (a0 a1 a2 a3:Int) (K:SV→Mem→Prop):(execF cxOc (fun _=> .un 40) Tryz.f65 64 [ag4 a0 a1 a2 a3] (memL []) K)=((((0:Int)≤32)
 ∧(((32:Int)≤140737488355328)∧((32:Int)≤140737488355328)))∧(B1 (shrv IntKind.u64 a3 56) fun x0=>B1 (IntKind.wrap IntKind.u8 x0) fun x1=>
 ((0<32)∧(B1 (shrv IntKind.u64 a3 48) fun x2=>B1 (IntKind.wrap IntKind.u8 x2) fun x3=>((1<(List.length (List.set (List.replicate 32 0) 0 x1)))
 ∧(B1 (shrv IntKind.u64 a3 40) fun x4=>B1 (IntKind.wrap IntKind.u8 x4) fun x5=>((2<(List.length (List.set (List.set (List.replicate 32 0) 0 x1) 1 x3)))
 ∧(B1 (shrv IntKind.u64 a3 32) fun x6=>B1 (IntKind.wrap IntKind.u8 x6) fun x7=>((3<(List.length (List.set (List.set (List.set (List.replicate 32 0) 0 x1) 1 x3) 2 x5)))
 ∧(B1 (shrv IntKind.u64 a3 24) fun x8=>B1 (IntKind.wrap IntKind.u8 x8) fun x9=>((4<(List.length (List.set (List.set (List.set (List.set (List.replicate 32 0) 0 x1) 1 x3) 2 x5) 3 x7)))
 ∧(B1 (shrv IntKind.u64 a3 16) fun x10=>B1 (IntKind.wrap IntKind.u8 x10) fun x11=>((5<(List.length (List.set (List.set (List.set (List.set (List.set
 (List.replicate 32 0) 0 x1) 1 x3) 2 x5) 3 x7) 4 x9)))∧(B1 (shrv IntKind.u64 a3 8) fun x12=>B1 (IntKind.wrap IntKind.u8 x12) fun x13=>((6<(List.length
 (List.set (List.set (List.set (List.set (List.set (List.set (List.replicate 32 0) 0 x1) 1 x3) 2 x5) 3 x7) 4 x9) 5 x11)))∧(B1 (shrv IntKind.u64 a3 0) fun x14=>B1
 (IntKind.wrap IntKind.u8 x14) fun x15=>((7<(List.length (List.set (List.set (List.set (List.set (List.set (List.set (List.set (List.replicate 32 0) 0 x1) 1 x3) 2 x5) 3 x7) 4 x9) 5 x11) 6 x13)))
 ∧(B1 (shrv IntKind.u64 a2 56) fun x16=>B1 (IntKind.wrap IntKind.u8 x16) fun x17=>((8<(List.length (List.set (List.set (List.set (List.set (List.set
 (List.set (List.set (List.set (List.replicate 32 0) 0 x1) 1 x3) 2 x5) 3 x7) 4 x9) 5 x11) 6 x13) 7 x15)))∧(B1 (shrv IntKind.u64 a2 48) fun x18=>B1
 (IntKind.wrap IntKind.u8 x18) fun x19=>((9<(List.length (List.set (List.set (List.set (List.set (List.set (List.set (List.set (List.set (List.set
 (List.replicate 32 0) 0 x1) 1 x3) 2 x5) 3 x7) 4 x9) 5 x11) 6 x13) 7 x15) 8 x17)))∧(B1 (shrv IntKind.u64 a2 40) fun x20=>B1 (IntKind.wrap IntKind.u8 x20) fun x21=>
 ((10<(List.length (List.set (List.set (List.set (List.set (List.set (List.set (List.set (List.set (List.set (List.set (List.replicate 32 0) 0 x1) 1 x3) 2 x5) 3 x7) 4 x9) 5 x11) 6 x13) 7 x15) 8 x17) 9 x19)))
 ∧(B1 (shrv IntKind.u64 a2 32) fun x22=>B1 (IntKind.wrap IntKind.u8 x22) fun x23=>((11<(List.length (List.set (List.set (List.set (List.set (List.set
 (List.set (List.set (List.set (List.set (List.set (List.set (List.replicate 32 0) 0 x1) 1 x3) 2 x5) 3 x7) 4 x9) 5 x11) 6 x13) 7 x15) 8 x17) 9 x19) 10 x21)))
 ∧(B1 (shrv IntKind.u64 a2 24) fun x24=>B1 (IntKind.wrap IntKind.u8 x24) fun x25=>((12<(List.length (List.set (List.set (List.set (List.set (List.set
 (List.set (List.set (List.set (List.set (List.set (List.set (List.set (List.replicate 32 0) 0 x1) 1 x3) 2 x5) 3 x7) 4 x9) 5 x11) 6 x13) 7 x15) 8 x17) 9 x19) 10 x21) 11 x23)))
 ∧(B1 (shrv IntKind.u64 a2 16) fun x26=>B1 (IntKind.wrap IntKind.u8 x26) fun x27=>((13<(List.length (List.set (List.set (List.set (List.set (List.set
 (List.set (List.set (List.set (List.set (List.set (List.set (List.set (List.set (List.replicate 32 0) 0 x1) 1 x3) 2 x5) 3 x7) 4 x9) 5 x11) 6 x13) 7 x15) 8 x17) 9 x19) 10 x21) 11 x23) 12 x25)))
 ∧(B1 (shrv IntKind.u64 a2 8) fun x28=>B1 (IntKind.wrap IntKind.u8 x28) fun x29=>((14<(List.length (List.set (List.set (List.set (List.set (List.set
 (List.set (List.set (List.set (List.set (List.set (List.set (List.set (List.set (List.set (List.replicate 32 0) 0 x1) 1 x3) 2 x5) 3 x7) 4 x9) 5 x11) 6 x13) 7 x15) 8 x17) 9 x19) 10 x21) 11 x23) 12 x25) 13 x27)))
 ∧(B1 (shrv IntKind.u64 a2 0) fun x30=>B1 (IntKind.wrap IntKind.u8 x30) fun x31=>((15<(List.length (List.set (List.set (List.set (List.set (List.set
 (List.set (List.set (List.set (List.set (List.set (List.set (List.set (List.set (List.set (List.set (List.replicate 32 0) 0 x1) 1 x3) 2 x5) 3 x7) 4 x9) 5 x11) 6 x13) 7 x15) 8 x17) 9 x19) 10 x21) 11 x23) 12 x25) 13 x27) 14 x29)))
 ∧(B1 (shrv IntKind.u64 a1 56) fun x32=>B1 (IntKind.wrap IntKind.u8 x32) fun x33=>((16<(List.length (List.set (List.set (List.set (List.set (List.set
 (List.set (List.set (List.set (List.set (List.set (List.set (List.set (List.set (List.set (List.set (List.set (List.replicate 32 0) 0 x1) 1 x3) 2 x5) 3 x7) 4 x9) 5 x11) 6 x13) 7 x15) 8 x17) 9 x19) 10 x21) 11 x23) 12 x25) 13 x27) 14 x29) 15 x31)))
 ∧(B1 (shrv IntKind.u64 a1 48) fun x34=>B1 (IntKind.wrap IntKind.u8 x34) fun x35=>((17<(List.length (List.set (List.set (List.set (List.set (List.set
 (List.set (List.set (List.set (List.set (List.set (List.set (List.set (List.set (List.set (List.set (List.set (List.set (List.replicate 32 0) 0 x1) 1 x3) 2 x5) 3 x7) 4 x9) 5 x11) 6 x13) 7 x15) 8 x17) 9 x19) 10 x21) 11 x23) 12 x25) 13 x27) 14 x29) 15 x31) 16 x33)))
 ∧(B1 (shrv IntKind.u64 a1 40) fun x36=>B1 (IntKind.wrap IntKind.u8 x36) fun x37=>((18<(List.length (List.set (List.set (List.set (List.set (List.set
 (List.set (List.set (List.set (List.set (List.set (List.set (List.set (List.set (List.set (List.set (List.set (List.set (List.set (List.replicate 32 0) 0 x1) 1 x3) 2 x5) 3 x7) 4 x9) 5 x11) 6 x13) 7 x15) 8 x17) 9 x19) 10 x21) 11 x23) 12 x25) 13 x27) 14 x29) 15 x31) 16 x33) 17 x35)))
 ∧(B1 (shrv IntKind.u64 a1 32) fun x38=>B1 (IntKind.wrap IntKind.u8 x38) fun x39=>((19<(List.length (List.set (List.set (List.set (List.set (List.set
 (List.set (List.set (List.set (List.set (List.set (List.set (List.set (List.set (List.set (List.set (List.set (List.set (List.set (List.set (List.replicate 32 0) 0 x1) 1 x3) 2 x5) 3 x7) 4 x9) 5 x11) 6 x13) 7 x15) 8 x17) 9 x19) 10 x21) 11 x23) 12 x25) 13 x27) 14 x29) 15 x31) 16 x33) 17 x35) 18 x37)))
 ∧(B1 (shrv IntKind.u64 a1 24) fun x40=>B1 (IntKind.wrap IntKind.u8 x40) fun x41=>((20<(List.length (List.set (List.set (List.set (List.set (List.set
 (List.set (List.set (List.set (List.set (List.set (List.set (List.set (List.set (List.set (List.set (List.set (List.set (List.set (List.set (List.set
 (List.replicate 32 0) 0 x1) 1 x3) 2 x5) 3 x7) 4 x9) 5 x11) 6 x13) 7 x15) 8 x17) 9 x19) 10 x21) 11 x23) 12 x25) 13 x27) 14 x29) 15 x31) 16 x33) 17 x35) 18 x37) 19 x39)))
 ∧(B1 (shrv IntKind.u64 a1 16) fun x42=>B1 (IntKind.wrap IntKind.u8 x42) fun x43=>((21<(List.length (List.set (List.set (List.set (List.set (List.set
 (List.set (List.set (List.set (List.set (List.set (List.set (List.set (List.set (List.set (List.set (List.set (List.set (List.set (List.set (List.set
 (List.set (List.replicate 32 0) 0 x1) 1 x3) 2 x5) 3 x7) 4 x9) 5 x11) 6 x13) 7 x15) 8 x17) 9 x19) 10 x21) 11 x23) 12 x25) 13 x27) 14 x29) 15 x31) 16 x33) 17 x35) 18 x37) 19 x39) 20 x41)))
 ∧(B1 (shrv IntKind.u64 a1 8) fun x44=>B1 (IntKind.wrap IntKind.u8 x44) fun x45=>((22<(List.length (List.set (List.set (List.set (List.set (List.set
 (List.set (List.set (List.set (List.set (List.set (List.set (List.set (List.set (List.set (List.set (List.set (List.set (List.set (List.set (List.set
 (List.set (List.set (List.replicate 32 0) 0 x1) 1 x3) 2 x5) 3 x7) 4 x9) 5 x11) 6 x13) 7 x15) 8 x17) 9 x19) 10 x21) 11 x23) 12 x25) 13 x27) 14 x29) 15 x31) 16 x33) 17 x35) 18 x37) 19 x39) 20 x41) 21 x43)))
 ∧(B1 (shrv IntKind.u64 a1 0) fun x46=>B1 (IntKind.wrap IntKind.u8 x46) fun x47=>((23<(List.length (List.set (List.set (List.set (List.set (List.set
 (List.set (List.set (List.set (List.set (List.set (List.set (List.set (List.set (List.set (List.set (List.set (List.set (List.set (List.set (List.set
 (List.set (List.set (List.set (List.replicate 32 0) 0 x1) 1 x3) 2 x5) 3 x7) 4 x9) 5 x11) 6 x13) 7 x15) 8 x17) 9 x19) 10 x21) 11 x23) 12 x25) 13 x27) 14 x29) 15 x31) 16 x33) 17 x35) 18 x37) 19 x39) 20 x41) 21 x43) 22 x45)))
 ∧(B1 (shrv IntKind.u64 a0 56) fun x48=>B1 (IntKind.wrap IntKind.u8 x48) fun x49=>((24<(List.length (List.set (List.set (List.set (List.set (List.set
 (List.set (List.set (List.set (List.set (List.set (List.set (List.set (List.set (List.set (List.set (List.set (List.set (List.set (List.set (List.set
 (List.set (List.set (List.set (List.set (List.replicate 32 0) 0 x1) 1 x3) 2 x5) 3 x7) 4 x9) 5 x11) 6 x13) 7 x15) 8 x17) 9 x19) 10 x21) 11 x23) 12 x25) 13 x27) 14 x29) 15 x31) 16 x33) 17 x35) 18 x37) 19 x39) 20 x41) 21 x43) 22 x45) 23 x47)))
 ∧(B1 (shrv IntKind.u64 a0 48) fun x50=>B1 (IntKind.wrap IntKind.u8 x50) fun x51=>((25<(List.length (List.set (List.set (List.set (List.set (List.set
 (List.set (List.set (List.set (List.set (List.set (List.set (List.set (List.set (List.set (List.set (List.set (List.set (List.set (List.set (List.set
 (List.set (List.set (List.set (List.set (List.set (List.replicate 32 0) 0 x1) 1 x3) 2 x5) 3 x7) 4 x9) 5 x11) 6 x13) 7 x15) 8 x17) 9 x19) 10 x21) 11 x23) 12 x25) 13 x27) 14 x29) 15 x31) 16 x33) 17 x35) 18 x37) 19 x39) 20 x41) 21 x43) 22 x45) 23 x47) 24 x49)))
 ∧(B1 (shrv IntKind.u64 a0 40) fun x52=>B1 (IntKind.wrap IntKind.u8 x52) fun x53=>((26<(List.length (List.set (List.set (List.set (List.set (List.set
 (List.set (List.set (List.set (List.set (List.set (List.set (List.set (List.set (List.set (List.set (List.set (List.set (List.set (List.set (List.set
 (List.set (List.set (List.set (List.set (List.set (List.set (List.replicate 32 0) 0 x1) 1 x3) 2 x5) 3 x7) 4 x9) 5 x11) 6 x13) 7 x15) 8 x17) 9 x19) 10 x21) 11 x23) 12 x25) 13 x27) 14 x29) 15 x31) 16 x33) 17 x35) 18 x37) 19 x39) 20 x41) 21 x43) 22 x45) 23 x47) 24 x49) 25 x51)))
 ∧(B1 (shrv IntKind.u64 a0 32) fun x54=>B1 (IntKind.wrap IntKind.u8 x54) fun x55=>((27<(List.length (List.set (List.set (List.set (List.set (List.set
 (List.set (List.set (List.set (List.set (List.set (List.set (List.set (List.set (List.set (List.set (List.set (List.set (List.set (List.set (List.set
 (List.set (List.set (List.set (List.set (List.set (List.set (List.set (List.replicate 32 0) 0 x1) 1 x3) 2 x5) 3 x7) 4 x9) 5 x11) 6 x13) 7 x15) 8 x17) 9 x19) 10 x21) 11 x23) 12 x25) 13 x27) 14 x29) 15 x31) 16 x33) 17 x35) 18 x37) 19 x39) 20 x41) 21 x43) 22 x45) 23 x47) 24 x49) 25 x51) 26 x53)))
 ∧(B1 (shrv IntKind.u64 a0 24) fun x56=>B1 (IntKind.wrap IntKind.u8 x56) fun x57=>((28<(List.length (List.set (List.set (List.set (List.set (List.set
 (List.set (List.set (List.set (List.set (List.set (List.set (List.set (List.set (List.set (List.set (List.set (List.set (List.set (List.set (List.set
 (List.set (List.set (List.set (List.set (List.set (List.set (List.set (List.set (List.replicate 32 0) 0 x1) 1 x3) 2 x5) 3 x7) 4 x9) 5 x11) 6 x13) 7 x15) 8 x17) 9 x19) 10 x21) 11 x23) 12 x25) 13 x27) 14 x29) 15 x31) 16 x33) 17 x35) 18 x37) 19 x39) 20 x41) 21 x43) 22 x45) 23 x47) 24 x49) 25 x51) 26 x53) 27 x55)))
 ∧(B1 (shrv IntKind.u64 a0 16) fun x58=>B1 (IntKind.wrap IntKind.u8 x58) fun x59=>((29<(List.length (List.set (List.set (List.set (List.set (List.set
 (List.set (List.set (List.set (List.set (List.set (List.set (List.set (List.set (List.set (List.set (List.set (List.set (List.set (List.set (List.set
 (List.set (List.set (List.set (List.set (List.set (List.set (List.set (List.set (List.set (List.replicate 32 0) 0 x1) 1 x3) 2 x5) 3 x7) 4 x9) 5 x11) 6 x13) 7 x15) 8 x17) 9 x19) 10 x21) 11 x23) 12 x25) 13 x27) 14 x29) 15 x31) 16 x33) 17 x35) 18 x37) 19 x39) 20 x41) 21 x43) 22 x45) 23 x47) 24 x49) 25 x51) 26 x53) 27 x55) 28 x57)))
 ∧(B1 (shrv IntKind.u64 a0 8) fun x60=>B1 (IntKind.wrap IntKind.u8 x60) fun x61=>((30<(List.length (List.set (List.set (List.set (List.set (List.set
 (List.set (List.set (List.set (List.set (List.set (List.set (List.set (List.set (List.set (List.set (List.set (List.set (List.set (List.set (List.set
 (List.set (List.set (List.set (List.set (List.set (List.set (List.set (List.set (List.set (List.set (List.replicate 32 0) 0 x1) 1 x3) 2 x5) 3 x7) 4 x9) 5 x11) 6 x13) 7 x15) 8 x17) 9 x19) 10 x21) 11 x23) 12 x25) 13 x27) 14 x29) 15 x31) 16 x33) 17 x35) 18 x37) 19 x39) 20 x41) 21 x43) 22 x45) 23 x47) 24 x49) 25 x51) 26 x53) 27 x55) 28 x57) 29 x59)))
 ∧(B1 (shrv IntKind.u64 a0 0) fun x62=>B1 (IntKind.wrap IntKind.u8 x62) fun x63=>((31<(List.length (List.set (List.set (List.set (List.set (List.set
 (List.set (List.set (List.set (List.set (List.set (List.set (List.set (List.set (List.set (List.set (List.set (List.set (List.set (List.set (List.set
 (List.set (List.set (List.set (List.set (List.set (List.set (List.set (List.set (List.set (List.set (List.set (List.replicate 32 0) 0 x1) 1 x3) 2 x5) 3 x7) 4 x9) 5 x11) 6 x13) 7 x15) 8 x17) 9 x19) 10 x21) 11 x23) 12 x25) 13 x27) 14 x29) 15 x31) 16 x33) 17 x35) 18 x37) 19 x39) 20 x41) 21 x43) 22 x45) 23 x47) 24 x49) 25 x51) 26 x53) 27 x55) 28 x57) 29 x59) 30 x61)))
 ∧(K (SV.slice 529 (N.lit 0) (N.lit 32) (N.lit 32)) (memL [(513,(Reg.mk Bool.false (Ct.cells [(U a0),(U a1),(U a2),(U a3)]))),(529,(Reg.mk Bool.false
 (Ct.ints IntKind.u8 (List.set (List.set (List.set (List.set (List.set (List.set (List.set (List.set (List.set (List.set (List.set (List.set (List.set
 (List.set (List.set (List.set (List.set (List.set (List.set (List.set (List.set (List.set (List.set (List.set (List.set (List.set (List.set (List.set
 (List.set (List.set (List.set (List.set (List.replicate 32 0) 0 x1) 1 x3) 2 x5) 3 x7) 4 x9) 5 x11) 6 x13) 7 x15) 8 x17) 9 x19) 10 x21) 11 x23) 12 x25) 13 x27) 14 x29) 15 x31) 16 x33) 17 x35) 18 x37) 19 x39) 20 x41) 21 x43) 22 x45) 23 x47) 24 x49) 25 x51) 26 x53) 27 x55) 28 x57) 29 x59) 30 x61) 31 x63))))]))))))))))))))))))))))))))))))))))))))))))))))))))))))))))))))))))):=by kernel_rfl
theorem beN_32 {a0 a1 a2 a3:Int} {A:Nat} (h:Ws a0 a1 a2 a3 A) (l0 l1 l2 l3:List Int) (e0:l0.length=8∧beN l0=a0.toNat) (e1:l1.length=8∧beN l1=a1.toNat) (e2:l2.length=8∧beN l2=a2.toNat) (e3:l3.length=8∧beN l3=a3.toNat):
  beN (l3++(l2++(l1++l0)))=A:=by
 rw[beN_app,beN_app,beN_app,e0.2,e1.2,e2.2,e3.2]
 simp only[List.length_append,e0.1,e1.1,e2.1]
 have hv:=h.val
 have hw:=h.wd
 unfold V4 at hv
 unfold Wd at hw
 simp only[Nat.reducePow,Nat.reduceAdd]
 clear e0 e1 e2 e3 h
 obtain ⟨n0,rfl⟩:=Int.eq_ofNat_of_zero_le hw.1.1
 obtain ⟨n1,rfl⟩:=Int.eq_ofNat_of_zero_le hw.2.1.1
 obtain ⟨n2,rfl⟩:=Int.eq_ofNat_of_zero_le hw.2.2.1.1
 obtain ⟨n3,rfl⟩:=Int.eq_ofNat_of_zero_le hw.2.2.2.1
 clear hw
 simp only[Int.toNat_natCast]
 omega
def by8L (a:Int):List Int:= [a / 72057594037927936%256,a / 281474976710656%256,a / 1099511627776%256,a / 4294967296%256,a / 16777216%256,a / 65536%256,a / 256%256,a / 1%256]
theorem by8_val {a:Int} (h:Wd a):(by8L a).length=8∧beN (by8L a)=a.toNat:=⟨rfl,by unfold by8L;rw[beN_8];exact word8 h⟩
theorem by8_byte (a:Int):∀b∈by8L a,0≤b∧b<256:=by
 intro b hb
 unfold by8L at hb
 simp only[List.mem_cons,List.not_mem_nil,or_false]at hb
 omega
theorem oct_walk {A:Nat} {a0 a1 a2 a3:Int} {K:SV→Mem→Prop} (hup:KUp K) (h:Ws a0 a1 a2 a3 A) (hK:∀ys:List Int,ys.length=32→beN ys=A→(∀b∈ys,0≤b∧b<256)→K (.slice 529 (.lit 0) (.lit 32) (.lit 32)) (memL [(529,⟨false,.ints .u8 ys⟩)])):
  execF cxOc (fun _=> .un 40) Tryz.f65 64 [ag4 a0 a1 a2 a3] (memL []) K:=by
 rw[vc_oct]
 obtain ⟨w0,w1,w2,w3⟩:=h.wd
 have b0:=byte_ofw w0
 have b1:=byte_ofw w1
 have b2:=byte_ofw w2
 have b3:=byte_ofw w3
 have K1:=hK (by8L a3++(by8L a2++(by8L a1++by8L a0))) rfl (beN_32 h _ _ _ _ (by8_val w0) (by8_val w1) (by8_val w2) (by8_val w3)) (by
  intro b hb
  simp only[List.mem_append]at hb
  rcases hb with hb | hb | hb | hb<;>exact by8_byte _ b hb)
 simp only[↓B1_eq,byte_ofw w0 0 (by decide),byte_ofw w0 8 (by decide),byte_ofw w0 16 (by decide),byte_ofw w0 24 (by decide),byte_ofw w0 32 (by decide),byte_ofw w0 40 (by decide),byte_ofw w0 48 (by decide),byte_ofw w0 56 (by decide),byte_ofw w1 0 (by decide),byte_ofw w1 8 (by decide),byte_ofw w1 16 (by decide),byte_ofw w1 24 (by decide),byte_ofw w1 32 (by decide),byte_ofw w1 40 (by decide),byte_ofw w1 48 (by decide),byte_ofw w1 56 (by decide),byte_ofw w2 0 (by decide),byte_ofw w2 8 (by decide),byte_ofw w2 16 (by decide),byte_ofw w2 24 (by decide),byte_ofw w2 32 (by decide),byte_ofw w2 40 (by decide),byte_ofw w2 48 (by decide),byte_ofw w2 56 (by decide),byte_ofw w3 0 (by decide),byte_ofw w3 8 (by decide),byte_ofw w3 16 (by decide),byte_ofw w3 24 (by decide),byte_ofw w3 32 (by decide),byte_ofw w3 40 (by decide),byte_ofw w3 48 (by decide),byte_ofw w3 56 (by decide),List.length_set,List.length_replicate]
 simp only[Int.reducePow]
 refine ⟨by decide,by decide,by decide,by decide,by decide,by decide,by decide,by decide,by decide,by decide,by decide,by decide,by decide,by decide,by decide,by decide,by decide,by decide,by decide,by decide,by decide,by decide,by decide,by decide,by decide,by decide,by decide,by decide,by decide,by decide,by decide,by decide,by decide,?_⟩
 refine hup.le (memL_sub [513,529] rfl (by decide) (l:= [(529,⟨false,.ints .u8 (by8L a3++(by8L a2++(by8L a1++by8L a0)))⟩)]) ?_) K1
 intro x hx
 simp only[List.mem_cons,List.not_mem_nil,or_false]at hx ⊢
 subst hx
 exact .inr (by kernel_rfl)
def gOc:G0:=fun args l K=>
 match args,l with
 | [.agg [.int .u64 (.sym a0),.int .u64 (.sym a1),.int .u64 (.sym a2),.int .u64 (.sym a3)]],[]=>(Wd a0∧Wd a1∧Wd a2∧Wd a3)∧∀ys:List Int,ys.length=32→beN ys=(V4 a0 a1 a2 a3).toNat→(∀b∈ys,0≤b∧b<256)→K (.slice 529 (.lit 0) (.lit 32) (.lit 32)) (memL [(529,⟨false,.ints .u8 ys⟩)])
 | _,_=>False
theorem oc_good:Good gOc:=by
 constructor
 ·intro args l K K' hk h
  unfold gOc at h ⊢
  split at h
  ·exact ⟨h.1,fun ys h1 h2 h3=>hk _ _ (h.2 ys h1 h2 h3)⟩
  ·exact h.elim
 ·intro args l K h
  unfold gOc at h
  split at h
  ·rename_i a0 a1 a2 a3
   obtain ⟨⟨w0,w1,w2,w3⟩,h⟩:=h
   exact ⟨_,_,h (by8L a3++(by8L a2++(by8L a1++by8L a0))) rfl (beN_32 (ws_of w0 w1 w2 w3) _ _ _ _ (by8_val w0) (by8_val w1) (by8_val w2) (by8_val w3)) (by
    intro b hb
    simp only[List.mem_append]at hb
    rcases hb with hb | hb | hb | hb<;>exact by8_byte _ b hb)⟩
  ·exact h.elim
theorem oc_ok (args:List SV) (l:List (Nat×Reg)) (K:SV→Mem→Prop) (hup:KUp K) (h:gOc args l K):∃U,execF cxOc U Tryz.f65 64 args (memL l) K:=by
 unfold gOc at h
 split at h
 ·rename_i a0 a1 a2 a3
  obtain ⟨⟨w0,w1,w2,w3⟩,h⟩:=h
  have:=oct_walk (K:=K) hup (ws_of w0 w1 w2 w3) h
  exact ⟨_,this⟩
 ·exact h.elim
def kOc:Ef Tryz.prog:=mkNw mixed 65 Tryz.func65 (by decide) (by kernel_rfl) [] [.num] gOc oc_good oc_ok
def cxEl:Cx Tryz.prog:= { rds:= [cB8,cStm],efs:= [kTm],eqs:= [] }
theorem vc_el (c0 c1 c2 c3 c4 c5 c6 c7 c8 c9 c10 c11 c12 c13 c14 c15 c16 c17 c18 c19 c20 c21 c22 c23 c24 c25 c26 c27 c28 c29 c30 c31:Int) (ys:List Int) (hys:ys= [c0,c1,c2,c3,c4,c5,c6,c7,c8,c9,c10,c11,c12,c13,c14,c15,c16,c17,c18,c19,c20,c21,c22,c23,c24,c25,c26,c27,c28,c29,c30,c31]) (K:SV→Mem
 →Prop):(execF cxEl u9 Tryz.f120 64 [.agg [],.ptr 1 (.lit 0)] (memL [(1,⟨true,.cells [.int .u8 (.sym c0),.int .u8 (.sym c1),.int .u8 (.sym c2),.int .u8
 (.sym c3),.int .u8 (.sym c4),.int .u8 (.sym c5),.int .u8 (.sym c6),.int .u8 (.sym c7),.int .u8 (.sym c8),.int .u8 (.sym c9),.int .u8 (.sym c10),.int .u8
 (.sym c11),.int .u8 (.sym c12),.int .u8 (.sym c13),.int .u8 (.sym c14),.int .u8 (.sym c15),.int .u8 (.sym c16),.int .u8 (.sym c17),.int .u8 (.sym c18),.int .u8
 (.sym c19),.int .u8 (.sym c20),.int .u8 (.sym c21),.int .u8 (.sym c22),.int .u8 (.sym c23),.int .u8 (.sym c24),.int .u8 (.sym c25),.int .u8 (.sym c26),.int .u8
 (.sym c27),.int .u8 (.sym c28),.int .u8 (.sym c29),.int .u8 (.sym c30),.int .u8 (.sym c31)]⟩)]) K)=(((32≤(List.length ys))
 ∧((((List.length (List.take 8 (List.drop 24 ys)))=8)
 ∧(8=8))∧(∀(b0:Int),((List.Mem b0 (List.take 8 (List.drop 24 ys)))
 →((0≤b0)∧(b0<256))))))∧(B1 (((beN (List.take 8 (List.drop 24 ys))):Nat):Int) fun x1=>
 (((24≤(List.length ys))
 ∧((((List.length (List.take 8 (List.drop 16 ys)))=8)
 ∧(8=8))∧(∀(b2:Int),((List.Mem b2 (List.take 8 (List.drop 16 ys)))
 →((0≤b2)∧(b2<256))))))∧(B1 (((beN (List.take 8 (List.drop 16 ys))):Nat):Int) fun x3=>
 (((16≤(List.length ys))
 ∧((((List.length (List.take 8 (List.drop 8 ys)))=8)
 ∧(8=8))∧(∀(b4:Int),((List.Mem b4 (List.take 8 (List.drop 8 ys)))
 →((0≤b4)∧(b4<256))))))∧(B1 (((beN (List.take 8 (List.drop 8 ys))):Nat):Int) fun x5=>
 (((8≤(List.length ys))
 ∧((((List.length (List.take 8 (List.drop 0 ys)))=8)
 ∧(8=8))∧(∀(b6:Int),((List.Mem b6 (List.take 8 (List.drop 0 ys)))
 →((0≤b6)∧(b6<256))))))∧(B1 (((beN (List.take 8 (List.drop 0 ys))):Nat):Int) fun x7=>
 ((W4 x1 x3 x5 x7)∧((((Bool.not (decide ((V4 x1 x3 x5 x7)<qI)))=Bool.true)→False)∧(((Bool.not (decide ((V4 x1 x3 x5 x7)<qI)))=Bool.false)
 →(∃(X8:Nat),((Ws x1 x3 x5 x7 X8)∧(∀(r9:Nat),((r9=(mont X8))→(∀(y010:Int),(∀(y111:Int),(∀(y212:Int),(∀(y313:Int),((El y010 y111 y212 y313 r9)
 →(B4 y010 y111 y212 y313 fun x14 x15 x16 x17=>(K (SV.tup [(SV.agg [(U x14),(U x15),(U x16),(U x17)]),(SV.val Go.Value.nilIface)]) (memL [(1,(Reg.mk Bool.true
 (Ct.cells [(SV.int IntKind.u8 (A.sym c0)),(SV.int IntKind.u8 (A.sym c1)),(SV.int IntKind.u8 (A.sym c2)),(SV.int IntKind.u8 (A.sym c3)),(SV.int IntKind.u8
 (A.sym c4)),(SV.int IntKind.u8 (A.sym c5)),(SV.int IntKind.u8 (A.sym c6)),(SV.int IntKind.u8 (A.sym c7)),(SV.int IntKind.u8 (A.sym c8)),(SV.int IntKind.u8
 (A.sym c9)),(SV.int IntKind.u8 (A.sym c10)),(SV.int IntKind.u8 (A.sym c11)),(SV.int IntKind.u8 (A.sym c12)),(SV.int IntKind.u8 (A.sym c13)),(SV.int IntKind.u8
 (A.sym c14)),(SV.int IntKind.u8 (A.sym c15)),(SV.int IntKind.u8 (A.sym c16)),(SV.int IntKind.u8 (A.sym c17)),(SV.int IntKind.u8 (A.sym c18)),(SV.int IntKind.u8
 (A.sym c19)),(SV.int IntKind.u8 (A.sym c20)),(SV.int IntKind.u8 (A.sym c21)),(SV.int IntKind.u8 (A.sym c22)),(SV.int IntKind.u8 (A.sym c23)),(SV.int IntKind.u8
 (A.sym c24)),(SV.int IntKind.u8 (A.sym c25)),(SV.int IntKind.u8 (A.sym c26)),(SV.int IntKind.u8 (A.sym c27)),(SV.int IntKind.u8 (A.sym c28)),(SV.int IntKind.u8
 (A.sym c29)),(SV.int IntKind.u8 (A.sym c30)),(SV.int IntKind.u8 (A.sym c31))]))),(513,(Reg.mk Bool.false (Ct.cells []))),(521,(Reg.mk Bool.false
 (Ct.cells [(U x14),(U x15),(U x16),(U x17)]))),(537,(Reg.mk Bool.false (Ct.cells [(SV.int IntKind.u64 (A.sym y010)),(SV.int IntKind.u64 (A.sym y111)),
 (SV.int IntKind.u64 (A.sym y212)),(SV.int IntKind.u64 (A.sym y313))])))]))))))))))))))))))))))):=by subst hys;kernel_rfl
theorem mem_td {ys:List Int} {b:Int} {i:Nat} (h:b∈(ys.drop i).take 8):b∈ys:=List.mem_of_mem_drop (List.mem_of_mem_take h)
theorem parts32 {ys:List Int} (h:ys.length=32):ys=(ys.drop 0).take 8++((ys.drop 8).take 8++((ys.drop 16).take 8++(ys.drop 24).take 8)):=by
 have e (i:Nat):ys.drop i=(ys.drop i).take 8++ys.drop (i+8):=by
  have:=(List.take_append_drop 8 (ys.drop i)).symm
  rw[List.drop_drop]at this
  exact this
 have h3:(ys.drop 24).take 8=ys.drop 24:=List.take_of_length_le (by rw[List.length_drop];omega)
 rw[h3,←e 16,←e 8,←e 0]
 rfl
theorem beN_lt8 {l:List Int} (h:l.length=8) (hb:∀b∈l,0≤b∧b<256):beN l<18446744073709551616:=by
 rw[b8_val h hb]
 have g0:=(getD_byte hb (i:=0) (by omega)).2
 have g1:=(getD_byte hb (i:=1) (by omega)).2
 have g2:=(getD_byte hb (i:=2) (by omega)).2
 have g3:=(getD_byte hb (i:=3) (by omega)).2
 have g4:=(getD_byte hb (i:=4) (by omega)).2
 have g5:=(getD_byte hb (i:=5) (by omega)).2
 have g6:=(getD_byte hb (i:=6) (by omega)).2
 have g7:=(getD_byte hb (i:=7) (by omega)).2
 have f (x:Int) (h:x<256):x.toNat≤255:=by omega
 have f0:=f _ g0
 have f1:=f _ g1
 have f2:=f _ g2
 have f3:=f _ g3
 have f4:=f _ g4
 have f5:=f _ g5
 have f6:=f _ g6
 have f7:=f _ g7
 clear f g0 g1 g2 g3 g4 g5 g6 g7 hb h
 generalize (l.getD 0 0).toNat=n0 at *
 generalize (l.getD 1 0).toNat=n1 at *
 generalize (l.getD 2 0).toNat=n2 at *
 generalize (l.getD 3 0).toNat=n3 at *
 generalize (l.getD 4 0).toNat=n4 at *
 generalize (l.getD 5 0).toNat=n5 at *
 generalize (l.getD 6 0).toNat=n6 at *
 generalize (l.getD 7 0).toNat=n7 at *
 omega
theorem ws_bytes {ys:List Int} (h:ys.length=32) (hb:∀b∈ys,0≤b∧b<256):Ws ((beN ((ys.drop 24).take 8):Nat):Int) ((beN ((ys.drop 16).take 8):Nat):Int) ((beN ((ys.drop 8).take 8):Nat):Int) ((beN ((ys.drop 0).take 8):Nat):Int) (beN ys):=by
 have l0:((ys.drop 0).take 8).length=8:=by rw[List.length_take,List.length_drop];omega
 have l1:((ys.drop 8).take 8).length=8:=by rw[List.length_take,List.length_drop];omega
 have l2:((ys.drop 16).take 8).length=8:=by rw[List.length_take,List.length_drop];omega
 have l3:((ys.drop 24).take 8).length=8:=by rw[List.length_take,List.length_drop];omega
 have e:beN ys=beN ((ys.drop 0).take 8)*6277101735386680763835789423207666416102355444464034512896+(beN ((ys.drop 8).take 8)*340282366920938463463374607431768211456+(beN ((ys.drop 16).take 8)*18446744073709551616+beN ((ys.drop 24).take 8))):=by
  conv=>lhs;rw[parts32 h]
  rw[beN_app,beN_app,beN_app]
  simp only[List.length_append,l1,l2,l3,Nat.reduceAdd,Nat.reducePow]
 have b0:=beN_lt8 l0 fun b h=>hb b (mem_td h)
 have b1:=beN_lt8 l1 fun b h=>hb b (mem_td h)
 have b2:=beN_lt8 l2 fun b h=>hb b (mem_td h)
 have b3:=beN_lt8 l3 fun b h=>hb b (mem_td h)
 generalize beN ys=A at *
 generalize beN ((ys.drop 0).take 8)=q3 at *
 generalize beN ((ys.drop 8).take 8)=q2 at *
 generalize beN ((ys.drop 16).take 8)=q1 at *
 generalize beN ((ys.drop 24).take 8)=q0 at *
 clear l0 l1 l2 l3 h hb
 have w (q:Nat) (h:q<18446744073709551616):Wd (q:Int):=by unfold Wd;omega
 have:=ws_of (w q0 b3) (w q1 b2) (w q2 b1) (w q3 b0)
 have f:(V4 q0 q1 q2 q3).toNat=A:=by unfold V4;omega
 rw[f]at this
 exact this
theorem el_walk {c0 c1 c2 c3 c4 c5 c6 c7 c8 c9 c10 c11 c12 c13 c14 c15 c16 c17 c18 c19 c20 c21 c22 c23 c24 c25 c26 c27 c28 c29 c30 c31:Int} {ys:List Int} {K:SV→Mem→Prop} (hys:ys= [c0,c1,c2,c3,c4,c5,c6,c7,c8,c9,c10,c11,c12,c13,c14,c15,c16,c17,c18,c19,c20,c21,c22,c23,c24,c25,c26,c27,c28,c29,c30,c31]) (h:ys.length=32) (hb:∀b∈ys,0≤b∧b<256) (hq:beN ys<qN) (hK:∀m,K (.tup [ag4 (lm (mont (beN ys)) 0) (lm (mont (beN ys)) 1) (lm (mont (beN ys)) 2) (lm (mont (beN ys)) 3),.val .nilIface]) m):
  execF cxEl u9 Tryz.f120 64 [.agg [],.ptr 1 (.lit 0)] (memL [(1,⟨true,.cells [.int .u8 (.sym c0),.int .u8 (.sym c1),.int .u8 (.sym c2),.int .u8 (.sym c3),.int .u8 (.sym c4),.int .u8 (.sym c5),.int .u8 (.sym c6),.int .u8 (.sym c7),.int .u8 (.sym c8),.int .u8 (.sym c9),.int .u8 (.sym c10),.int .u8 (.sym c11),.int .u8 (.sym c12),.int .u8 (.sym c13),.int .u8 (.sym c14),.int .u8 (.sym c15),.int .u8 (.sym c16),.int .u8 (.sym c17),.int .u8 (.sym c18),.int .u8 (.sym c19),.int .u8 (.sym c20),.int .u8 (.sym c21),.int .u8 (.sym c22),.int .u8 (.sym c23),.int .u8 (.sym c24),.int .u8 (.sym c25),.int .u8 (.sym c26),.int .u8 (.sym c27),.int .u8 (.sym c28),.int .u8 (.sym c29),.int .u8 (.sym c30),.int .u8 (.sym c31)]⟩)]) K:=by
 rw[vc_el (hys:=hys)]
 simp only[B1_eq,B4_eq]
 have W:=ws_bytes h hb
 have lt:decide (V4 ((beN ((ys.drop 24).take 8):Nat):Int) ((beN ((ys.drop 16).take 8):Nat):Int) ((beN ((ys.drop 8).take 8):Nat):Int) ((beN ((ys.drop 0).take 8):Nat):Int)<qI)=true:=decide_eq_true (by rw[W.val,qI_eq];omega)
 have ob (i:Nat) (hi:i+8≤32):((((ys.drop i).take 8).length=8)∧True)∧(∀b:Int,List.Mem b ((ys.drop i).take 8)→0≤b∧b<256):=
  ⟨⟨by rw[List.length_take,List.length_drop];omega,trivial⟩,fun b h=>hb b (mem_td h)⟩
 refine ⟨⟨by omega,ob 24 (by omega)⟩,⟨by omega,ob 16 (by omega)⟩,⟨by omega,ob 8 (by omega)⟩,⟨by omega,ob 0 (by omega)⟩,W.wd,fun hc=> ?_,fun _=> ?_⟩
 ·rw[lt]at hc
  exact absurd hc (by decide)
 refine ⟨_,W,?_⟩
 rintro _ rfl y0 y1 y2 y3 hy
 obtain ⟨rfl,rfl,rfl,rfl,_⟩:=hy
 exact hK _
def rEl:R0:=fun args l=>
 match args,l with
 | [.agg [],.ptr 1 (.lit 0)],[(1,⟨true,.cells [.int .u8 (.sym c0),.int .u8 (.sym c1),.int .u8 (.sym c2),.int .u8 (.sym c3),.int .u8 (.sym c4),.int .u8 (.sym c5),.int .u8 (.sym c6),.int .u8 (.sym c7),.int .u8 (.sym c8),.int .u8 (.sym c9),.int .u8 (.sym c10),.int .u8 (.sym c11),.int .u8 (.sym c12),.int .u8 (.sym c13),.int .u8 (.sym c14),.int .u8 (.sym c15),.int .u8 (.sym c16),.int .u8 (.sym c17),.int .u8 (.sym c18),.int .u8 (.sym c19),.int .u8 (.sym c20),.int .u8 (.sym c21),.int .u8 (.sym c22),.int .u8 (.sym c23),.int .u8 (.sym c24),.int .u8 (.sym c25),.int .u8 (.sym c26),.int .u8 (.sym c27),.int .u8 (.sym c28),.int .u8 (.sym c29),.int .u8 (.sym c30),.int .u8 (.sym c31)]⟩)]=>some (some ((∀b∈[c0,c1,c2,c3,c4,c5,c6,c7,c8,c9,c10,c11,c12,c13,c14,c15,c16,c17,c18,c19,c20,c21,c22,c23,c24,c25,c26,c27,c28,c29,c30,c31],0≤b∧b<256)∧beN [c0,c1,c2,c3,c4,c5,c6,c7,c8,c9,c10,c11,c12,c13,c14,c15,c16,c17,c18,c19,c20,c21,c22,c23,c24,c25,c26,c27,c28,c29,c30,c31]<qN),.tup [ag4 (lm (mont (beN [c0,c1,c2,c3,c4,c5,c6,c7,c8,c9,c10,c11,c12,c13,c14,c15,c16,c17,c18,c19,c20,c21,c22,c23,c24,c25,c26,c27,c28,c29,c30,c31])) 0) (lm (mont (beN [c0,c1,c2,c3,c4,c5,c6,c7,c8,c9,c10,c11,c12,c13,c14,c15,c16,c17,c18,c19,c20,c21,c22,c23,c24,c25,c26,c27,c28,c29,c30,c31])) 1) (lm (mont (beN [c0,c1,c2,c3,c4,c5,c6,c7,c8,c9,c10,c11,c12,c13,c14,c15,c16,c17,c18,c19,c20,c21,c22,c23,c24,c25,c26,c27,c28,c29,c30,c31])) 2) (lm (mont (beN [c0,c1,c2,c3,c4,c5,c6,c7,c8,c9,c10,c11,c12,c13,c14,c15,c16,c17,c18,c19,c20,c21,c22,c23,c24,c25,c26,c27,c28,c29,c30,c31])) 3),.val .nilIface])
 | _,_=>none
theorem El_ok (args:List SV) (l:List (Nat×Reg)) (p:Ob) (v:SV) (h:rEl args l=some (p,v)) (hp:p.ok):∃U,execF cxEl U Tryz.f120 64 args (memL l) fun v' _=>v'=v:=by
 unfold rEl at h
 split at h
 ·rename_i c0 c1 c2 c3 c4 c5 c6 c7 c8 c9 c10 c11 c12 c13 c14 c15 c16 c17 c18 c19 c20 c21 c22 c23 c24 c25 c26 c27 c28 c29 c30 c31
  simp only[Option.some.injEq,Prod.mk.injEq]at h
  obtain ⟨rfl,rfl⟩:=h
  have hp:(∀b∈[c0,c1,c2,c3,c4,c5,c6,c7,c8,c9,c10,c11,c12,c13,c14,c15,c16,c17,c18,c19,c20,c21,c22,c23,c24,c25,c26,c27,c28,c29,c30,c31],0≤b∧b<256)∧beN [c0,c1,c2,c3,c4,c5,c6,c7,c8,c9,c10,c11,c12,c13,c14,c15,c16,c17,c18,c19,c20,c21,c22,c23,c24,c25,c26,c27,c28,c29,c30,c31]<qN:=hp
  exact ⟨_,el_walk rfl rfl hp.1 hp.2 fun _=>rfl⟩
 ·cases h
def cEl:Rd Tryz.prog:=mkR mixed 120 Tryz.func120 (by decide) (by kernel_rfl) [] [.val,.ptr 32 true] rEl El_ok
theorem list32b {ys:List Int} (h:ys.length=32): [ys.getD 0 0,ys.getD 1 0,ys.getD 2 0,ys.getD 3 0,ys.getD 4 0,ys.getD 5 0,ys.getD 6 0,ys.getD 7 0,ys.getD 8 0,ys.getD 9 0,ys.getD 10 0,ys.getD 11 0,ys.getD 12 0,ys.getD 13 0,ys.getD 14 0,ys.getD 15 0,ys.getD 16 0,ys.getD 17 0,ys.getD 18 0,ys.getD 19 0,ys.getD 20 0,ys.getD 21 0,ys.getD 22 0,ys.getD 23 0,ys.getD 24 0,ys.getD 25 0,ys.getD 26 0,ys.getD 27 0,ys.getD 28 0,ys.getD 29 0,ys.getD 30 0,ys.getD 31 0]=ys:=by
 have e:ys=(List.range 32).map fun i=>ys.getD i 0:=by
  apply List.ext_getElem
  ·rw[List.length_map,List.length_range,h]
  ·intro i h1 h2
   rw[List.getElem_map,List.getElem_range,List.getD_eq_getElem?_getD,List.getElem?_eq_getElem h1,Option.getD_some]
 conv=>rhs;rw[e]
 rfl
def cxSC:Cx Tryz.prog:= { rds:= [cEl],efs:= [],eqs:= [] }
def g32 (ys:List Int):List Int:= [ys.getD 0 0,ys.getD 1 0,ys.getD 2 0,ys.getD 3 0,ys.getD 4 0,ys.getD 5 0,ys.getD 6 0,ys.getD 7 0,ys.getD 8 0,ys.getD 9 0,ys.getD 10 0,ys.getD 11 0,ys.getD 12 0,ys.getD 13 0,ys.getD 14 0,ys.getD 15 0,ys.getD 16 0,ys.getD 17 0,ys.getD 18 0,ys.getD 19 0,ys.getD 20 0,ys.getD 21 0,ys.getD 22 0,ys.getD 23 0,ys.getD 24 0,ys.getD 25 0,ys.getD 26 0,ys.getD 27 0,ys.getD 28 0,ys.getD 29 0,ys.getD 30 0,ys.getD 31 0]
theorem vc_sc (z0 z1 z2 z3:Int) (n c:Nat) (ys:List Int) (K:SV→Mem→Prop):(execF cxSC u9 Tryz.f64 64 [.ptr 1 (.lit 0),.slice 9 (.lit 0) (.sym n) (.sym c)] (memL [(1,⟨false,w4 z0 z1 z2 z3⟩),(9,⟨true,.ints .u8 ys⟩)]) K)=(B1 ((n:Nat):Int) fun x0=>((((x0 !=32)=Bool.true)→False)∧(((x0 !=32)=Bool.false)→((32≤n)∧(((32≤(List.length ys))∧((∀(b1:Int),((List.Mem b1 (g32 ys))→((0≤b1)∧(b1<256))))∧((beN (g32 ys))<qN)))∧(L4 (mont (beN (g32 ys))) fun x2 x3 x4 x5=>(K (SV.val Go.Value.nilIface) (memL [(1,(Reg.mk Bool.false (Ct.cells [(U x2),(U x3),(U x4),(U x5)]))),(9,(Reg.mk Bool.true (Ct.ints IntKind.u8 ys))),(601,(Reg.mk Bool.false (Ct.cells [(SV.int IntKind.u64 (A.sym (lm (mont (beN (g32 ys))) 0))),(SV.int IntKind.u64 (A.sym (lm (mont (beN (g32 ys))) 1))),(SV.int IntKind.u64 (A.sym (lm (mont (beN (g32 ys))) 2))),(SV.int IntKind.u64 (A.sym (lm (mont (beN (g32 ys))) 3)))])))])))))))):=by kernel_rfl
theorem g32_eq {ys:List Int} (h:ys.length=32):g32 ys=ys:=list32b h
def gSc:G0:=fun args l K=>
 match args,l with
 | [.ptr 1 (.lit 0),.slice 9 (.lit 0) (.sym n) (.sym c)],[(1,⟨false,z⟩),(9,⟨true,.ints .u8 ys⟩)]=>c4 z fun _ _ _ _=>((ys.length=32∧n=32)∧(∀b∈ys,0≤b∧b<256)∧beN ys<qN)∧∀r,r=mont (beN ys)→∀y0 y1 y2 y3,El y0 y1 y2 y3 r→K (.val .nilIface) (memL [(1,⟨false,w4 y0 y1 y2 y3⟩),(9,⟨true,.ints .u8 ys⟩)])
 | _,_=>False
theorem sc_good:Good gSc:=by
 constructor
 ·intro args l K K' hk h
  unfold gSc at h ⊢
  split at h
  ·exact c4_mono (fun _ _ _ _ h=>⟨h.1,fun r hr y0 y1 y2 y3 hy=>hk _ _ (h.2 r hr y0 y1 y2 y3 hy)⟩) h
  ·exact h.elim
 ·intro args l K h
  unfold gSc at h
  split at h
  ·obtain ⟨_,_,_,_,_,h⟩:=c4_ex h
   exact ⟨_,_,h.2 _ rfl _ _ _ _ (El.of (mont_lt _))⟩
  ·exact h.elim
theorem sc_ok (args:List SV) (l:List (Nat×Reg)) (K:SV→Mem→Prop) (hup:KUp K) (h:gSc args l K):∃U,execF cxSC U Tryz.f64 64 args (memL l) K:=by
 unfold gSc at h
 split at h
 ·rename_i n c zz ys
  obtain ⟨z0,z1,z2,z3,rfl,q0⟩:=c4_ex h
  obtain ⟨⟨⟨hl,rfl⟩,hb,hq⟩,hK⟩:=q0
  refine ⟨u9,?_⟩
  rw[vc_sc z0 z1 z2 z3,B1_eq,g32_eq hl,L4_eq]
  refine ⟨fun h=>absurd h (by decide),fun _=>⟨by omega,⟨by omega,hb,hq⟩,?_⟩⟩
  exact hup.le (memL_sub [1,9,601] rfl (by decide) (by
    intro x hx
    simp only[List.mem_cons,List.not_mem_nil,or_false]at hx ⊢
    rcases hx with hx | hx<;>simp[hx,w4,U])) (hK _ rfl _ _ _ _ (El.of (mont_lt _)))
 ·exact h.elim
def kSc:Ef Tryz.prog:=mkE mixed 64 Tryz.func64 (by decide) (by kernel_rfl) [] [.ptr 4 false,.sl 1 true] gSc sc_good sc_ok
def cxMd:Cx Tryz.prog:= { rds:= [],efs:= [kOc,kSc],eqs:= [] }
theorem vc_md (a0 a1 a2 a3:Int) (K:SV→Mem→Prop):(execF cxMd u9 Tryz.f28 64 [ag4 a0 a1 a2 a3] (memL []) K)=(B4 a0 a1 a2 a3 fun x0 x1 x2 x3=>
 ((W4 x0 x1 x2 x3)∧(∀(ys4:(List Int)),(((List.length ys4)=32)→(((beN ys4)=(N4 x0 x1 x2 x3))→((∀(b5:Int),((List.Mem b5 ys4)→((0≤b5)
 ∧(b5<256))))→(∀(ys6:(List Int)),((ys6=ys4)→((32≤(List.length ys6))∧(((((List.length (List.take 32 (List.drop 0 ys6)))=32)∧(32=32))
 ∧((∀(b7:Int),((List.Mem b7 (List.take 32 (List.drop 0 ys6)))→((0≤b7)∧(b7<256))))∧((beN (List.take 32 (List.drop 0 ys6)))<qN)))∧(∀(r8:Nat),
 ((r8=(mont (beN (List.take 32 (List.drop 0 ys6)))))→(∀(y09:Int),(∀(y110:Int),(∀(y211:Int),(∀(y312:Int),((El y09 y110 y211 y312 r8)
 →(B4 y09 y110 y211 y312 fun x13 x14 x15 x16=>(K (SV.tup [(SV.agg [(U x13),(U x14),(U x15),(U x16)]),(SV.bool (B.lit Bool.true))]) (memL [(513,
 (Reg.mk Bool.false (Ct.cells [(U a0),(U a1),(U a2),(U a3)]))),(521,(Reg.mk Bool.false (Ct.cells [(U x13),(U x14),(U x15),(U x16)]))),(537,(Reg.mk Bool.false
 (Ct.cells [(SV.int IntKind.u64 (A.sym y09)),(SV.int IntKind.u64 (A.sym y110)),(SV.int IntKind.u64 (A.sym y211)),(SV.int IntKind.u64 (A.sym y312))]))),
 (553,(Reg.mk Bool.false (Ct.ints IntKind.u8 ys6)))])))))))))))))))))))):=by kernel_rfl
theorem td32 {ys:List Int} (h:ys.length=32):List.take 32 (List.drop 0 ys)=ys:=by
 rw[List.drop_zero]
 exact List.take_of_length_le (by omega)
theorem md_walk {A:Nat} {a0 a1 a2 a3:Int} {K:SV→Mem→Prop} (ha:Ws a0 a1 a2 a3 A) (la:A<qN) (hK:∀m,K (.tup [ag4 (lm (mont A) 0) (lm (mont A) 1) (lm (mont A) 2) (lm (mont A) 3),.bool (.lit true)]) m):
  execF cxMd u9 Tryz.f28 64 [ag4 a0 a1 a2 a3] (memL []) K:=by
 rw[vc_md,B4_eq]
 refine ⟨ha.wd,?_⟩
 rw[show N4 a0 a1 a2 a3=A from Vx ha]
 intro ys hl hn hb zs hz
 subst zs
 rw[td32 hl]
 refine ⟨by omega,⟨⟨hl,rfl⟩,hb,by rw[hn];exact la⟩,?_⟩
 rw[hn]
 rintro _ rfl y0 y1 y2 y3 hy
 obtain ⟨rfl,rfl,rfl,rfl,_⟩:=hy
 rw[B4_eq]
 exact hK _
def rMd:R0:=fun args l=>
 match args,l with
 | [.agg [.int .u64 (.sym a0),.int .u64 (.sym a1),.int .u64 (.sym a2),.int .u64 (.sym a3)]],[]=>some (some ((Wd a0∧Wd a1∧Wd a2∧Wd a3)∧V4 a0 a1 a2 a3<21888242871839275222246405745257275088696311157297823662689037894645226208583),.tup [ag4 (lm (mont (V4 a0 a1 a2 a3).toNat) 0) (lm (mont (V4 a0 a1 a2 a3).toNat) 1) (lm (mont (V4 a0 a1 a2 a3).toNat) 2) (lm (mont (V4 a0 a1 a2 a3).toNat) 3),.bool (.lit true)])
 | _,_=>none
theorem Md_ok (args:List SV) (l:List (Nat×Reg)) (p:Ob) (v:SV) (h:rMd args l=some (p,v)) (hp:p.ok):∃U,execF cxMd U Tryz.f28 64 args (memL l) fun v' _=>v'=v:=by
 unfold rMd at h
 split at h
 ·rename_i a0 a1 a2 a3
  simp only[Option.some.injEq,Prod.mk.injEq]at h
  obtain ⟨rfl,rfl⟩:=h
  have hp:(Wd a0∧Wd a1∧Wd a2∧Wd a3)∧V4 a0 a1 a2 a3<21888242871839275222246405745257275088696311157297823662689037894645226208583:=hp
  have A:=ws_of hp.1.1 hp.1.2.1 hp.1.2.2.1 hp.1.2.2.2
  have ea:=Ws.val A
  have la:=hp.2
  exact ⟨_,md_walk A (by unfold qN;omega) fun _=>rfl⟩
 ·cases h
def cMd:Rd Tryz.prog:=mkR mixed 28 Tryz.func28 (by decide) (by kernel_rfl) [] [.num] rMd Md_ok
theorem vc_lge (x0 x1 x2 x3 x4 x5 x6 x7:Int) (P:SV→Prop):(execF cxLgE u9 Tryz.f37 64 [.ptr 1 (.lit 0)] (memL [(1,⟨true,w8 x0 x1 x2 x3 x4 x5 x6 x7⟩)]) fun v _=>P v)=
 (∃p,Ep x0 x1 x2 x3 x4 x5 x6 x7 p∧∀i j k l,El i j k l (mont (enorm p))→(W4 i j k l∧V4 i j k l<qI)∧B1 (lgV (N4 i j k l)) fun x=>P (.int .i64 (.sym x))):=by kernel_rfl
def rLgE:R0:=fun args l=>
 match args,l with
 | [.ptr 1 (.lit 0)],[(1,⟨true,x⟩)]=>r8 x fun x0 x1 x2 x3 x4 x5 x6 x7=>some (some ((W4 x0 x1 x2 x3∧W4 x4 x5 x6 x7)∧V4 x0 x1 x2 x3<21888242871839275222246405745257275088696311157297823662689037894645226208583∧V4 x4 x5 x6 x7<21888242871839275222246405745257275088696311157297823662689037894645226208583),.int .i64 (.sym (lgN (enorm (bE x0 x1 x2 x3 x4 x5 x6 x7)))))
 | _,_=>none
theorem lge_ok (args:List SV) (l:List (Nat×Reg)) (p:Ob) (v:SV) (h:rLgE args l=some (p,v)) (hp:p.ok):∃U,execF cxLgE U Tryz.f37 64 args (memL l) fun v' _=>v'=v:=by
 unfold rLgE at h
 split at h
 ·obtain ⟨x0,x1,x2,x3,x4,x5,x6,x7,rfl,q⟩:=r8_ex h
  simp only[Option.some.injEq,Prod.mk.injEq]at q
  obtain ⟨rfl,rfl⟩:=q
  obtain ⟨⟨h1,h2⟩,h3,h4⟩:(W4 x0 x1 x2 x3∧W4 x4 x5 x6 x7)∧V4 x0 x1 x2 x3<21888242871839275222246405745257275088696311157297823662689037894645226208583∧V4 x4 x5 x6 x7<21888242871839275222246405745257275088696311157297823662689037894645226208583:=hp
  refine ⟨u9,?_⟩
  rw[vc_lge x0 x1 x2 x3 x4 x5 x6 x7 fun v'=>v'=_]
  refine ⟨bE x0 x1 x2 x3 x4 x5 x6 x7,bE_ep h1 h2 h3 h4,?_⟩
  intro i j k l e
  refine ⟨⟨e.wd,Vlt' e⟩,?_⟩
  rw[B1_eq,show N4 i j k l=_ from Vx e.ws,lgV_mont (enorm_lt _)]
 ·cases h
def cLgE:Rd Tryz.prog:=mkR mixed 37 Tryz.func37 (by decide) (by kernel_rfl) [] [.ptr 8 true] rLgE lge_ok
def cxBtw:Cx Tryz.prog:= { rds:= [],efs:= [cSu,kInE,kBc,kMe],eqs:= [] }
theorem vc_btw (K:SV→Mem→Prop):(execF cxBtw u9 Tryz.f36 64 [] (memL []) K)=
 (Wd 9∧∀r,r=mont (Int.toNat 9)→Wd 1∧∀s,s=mont (Int.toNat 1)→∃p,Ep (lm r 0) (lm r 1) (lm r 2) (lm r 3) (lm s 0) (lm s 1) (lm s 2) (lm s 3) p∧∀j0 j1 j2 j3 j4 j5 j6 j7,Ep j0 j1 j2 j3 j4 j5 j6 j7 (einv p)→∀a b c d,BcR a b c d→∃p y,(Ep j0 j1 j2 j3 j4 j5 j6 j7 p∧El a b c d (mont y))∧∀k0 k1 k2 k3 k4 k5 k6 k7,Ep k0 k1 k2 k3 k4 k5 k6 k7 (meE p y)→
  K (.ptr 529 (.lit 0)) (memL [(521,⟨false,w8 (lm r 0) (lm r 1) (lm r 2) (lm r 3) (lm s 0) (lm s 1) (lm s 2) (lm s 3)⟩),(529,⟨false,w8 k0 k1 k2 k3 k4 k5 k6 k7⟩),(577,⟨false,w4 a b c d⟩)])):=by kernel_rfl
theorem tw_eq:meE (einv ⟨9,1⟩) 3=twE:=F2.eq (by decide +kernel) (by decide +kernel)
theorem twE_ok:twE.ok:=⟨by decide,by decide⟩
def gBtw:G0:=fun args l K=>
 match args,l with
 | [],[]=>∀j0 j1 j2 j3 j4 j5 j6 j7,Ep j0 j1 j2 j3 j4 j5 j6 j7 twE→K (.ptr 529 (.lit 0)) (memL [(529,⟨false,w8 j0 j1 j2 j3 j4 j5 j6 j7⟩)])
 | _,_=>False
theorem btw_good:Good gBtw:=by
 constructor
 ·intro args l K K' hk h
  unfold gBtw at h ⊢
  split at h
  ·exact fun j0 j1 j2 j3 j4 j5 j6 j7 e=>hk _ _ (h j0 j1 j2 j3 j4 j5 j6 j7 e)
  ·exact h.elim
 ·intro args l K h
  unfold gBtw at h
  split at h
  ·obtain ⟨j0,j1,j2,j3,j4,j5,j6,j7,e⟩:=Ep.ex twE_ok
   exact ⟨_,_,h _ _ _ _ _ _ _ _ e⟩
  ·exact h.elim
theorem btw_ok (args:List SV) (l:List (Nat×Reg)) (K:SV→Mem→Prop) (hup:KUp K) (h:gBtw args l K):∃U,execF cxBtw U Tryz.f36 64 args (memL l) K:=by
 unfold gBtw at h
 split at h
 ·refine ⟨u9,(vc_btw K).mpr ⟨by decide,?_⟩⟩
  intro r hr
  refine ⟨by decide,?_⟩
  intro s hs
  refine ⟨⟨9,1⟩,⟨?_,?_,by decide,by decide⟩,?_⟩
  ·rw[hr]
   exact El.of (mont_lt _)
  ·rw[hs]
   exact El.of (mont_lt _)
  intro j0 j1 j2 j3 j4 j5 j6 j7 e a b c d hb
  refine ⟨_,3,⟨e,hb⟩,?_⟩
  intro k0 k1 k2 k3 k4 k5 k6 k7 e2
  rw[tw_eq]at e2
  exact hup.le (memL_sub [521,529,577] rfl (by decide) (by
   intro x hx
   simp only[List.mem_cons,List.not_mem_nil,or_false]at hx ⊢
   simp[hx])) (h _ _ _ _ _ _ _ _ e2)
 ·exact h.elim
def kBtw:Ef Tryz.prog:=mkNw mixed 36 Tryz.func36 (by decide) (by kernel_rfl) [] [] gBtw btw_good btw_ok
def cxSqr2:Cx Tryz.prog:= { rds:= [cIz,cLgd,cEq],efs:= [kSqt,cSz,kNeg,kSqr,kAddA,kEs,kDb,kPm,kMulA,kSet],eqs:= [] }
def SqC (x0 x1 x2 x3 x4 x5 x6 x7:Int) (K:SV→Mem→Prop):Prop:=
 W4 x4 x5 x6 x7∧(decide (V4 x4 x5 x6 x7=0)=true→(W4 x0 x1 x2 x3∧V4 x0 x1 x2 x3<qI)∧B1 (lgV (N4 x0 x1 x2 x3)) fun l=>
  (decide (l≥0)=true→sqC x0 x1 x2 x3 fun a0 a1 a2 a3=>K (.ptr 1 (.lit 0)) (memL [(1,⟨false,w8 a0 a1 a2 a3 0 0 0 0⟩),(9,⟨true,w8 x0 x1 x2 x3 x4 x5 x6 x7⟩)]))∧
  (decide (l≥0)=false→ngC x0 x1 x2 x3 fun a0 a1 a2 a3=>sqC a0 a1 a2 a3 fun b0 b1 b2 b3=>K (.ptr 1 (.lit 0)) (memL [(1,⟨false,w8 0 0 0 0 b0 b1 b2 b3⟩),(9,⟨true,w8 x0 x1 x2 x3 x4 x5 x6 x7⟩),(593,⟨false,w4 a0 a1 a2 a3⟩)])))∧
 (decide (V4 x4 x5 x6 x7=0)=false→mulC x0 x1 x2 x3 x0 x1 x2 x3 fun a0 a1 a2 a3=>mulC x4 x5 x6 x7 x4 x5 x6 x7 fun b0 b1 b2 b3=>addC b0 b1 b2 b3 a0 a1 a2 a3 fun c0 c1 c2 c3=>B4 c0 c1 c2 c3 fun cc0 cc1 cc2 cc3=>
  ∃X,El cc0 cc1 cc2 cc3 (mont X)∧∀d0 d1 d2 d3,EsR X d0 d1 d2 d3→addC x0 x1 x2 x3 d0 d1 d2 d3 fun e0 e1 e2 e3=>addC e0 e1 e2 e3 e0 e1 e2 e3 fun t0 t1 t2 t3=>B4 t0 t1 t2 t3 fun tt0 tt1 tt2 tt3=>∃X,El tt0 tt1 tt2 tt3 (mont X)∧∀s0 s1 s2 s3,El s0 s1 s2 s3 (mont (pmN X))→
  mulC e0 e1 e2 e3 s0 s1 s2 s3 fun m0 m1 m2 m3=>mulC x4 x5 x6 x7 s0 s1 s2 s3 fun n0 n1 n2 n3=>addC m0 m1 m2 m3 m0 m1 m2 m3 fun u0 u1 u2 u3=>mulC u0 u1 u2 u3 u0 u1 u2 u3 fun v0 v1 v2 v3=>(W4 v0 v1 v2 v3∧W4 t0 t1 t2 t3)∧
  (decide (V4 v0 v1 v2 v3=V4 t0 t1 t2 t3)=true→K (.ptr 1 (.lit 0)) (memL [(1,⟨false,w8 m0 m1 m2 m3 n0 n1 n2 n3⟩),(9,⟨true,w8 x0 x1 x2 x3 x4 x5 x6 x7⟩),(553,⟨false,w4 d0 d1 d2 d3⟩),(561,⟨false,w4 m0 m1 m2 m3⟩),(569,⟨false,w4 n0 n1 n2 n3⟩),(577,⟨false,w4 t0 t1 t2 t3⟩),(585,⟨false,w4 v0 v1 v2 v3⟩)]))∧
  (decide (V4 v0 v1 v2 v3=V4 t0 t1 t2 t3)=false→ngC m0 m1 m2 m3 fun o0 o1 o2 o3=>K (.ptr 1 (.lit 0)) (memL [(1,⟨false,w8 n0 n1 n2 n3 o0 o1 o2 o3⟩),(9,⟨true,w8 x0 x1 x2 x3 x4 x5 x6 x7⟩),(553,⟨false,w4 d0 d1 d2 d3⟩),(561,⟨false,w4 m0 m1 m2 m3⟩),(569,⟨false,w4 n0 n1 n2 n3⟩),(577,⟨false,w4 t0 t1 t2 t3⟩),(585,⟨false,w4 v0 v1 v2 v3⟩)])))
theorem vc_sqe (z0 z1 z2 z3 z4 z5 z6 z7 x0 x1 x2 x3 x4 x5 x6 x7:Int) (K:SV→Mem→Prop):execF cxSqr2 u9 Tryz.f39 64 [.ptr 1 (.lit 0),.ptr 9 (.lit 0)] (memL [(1,⟨false,w8 z0 z1 z2 z3 z4 z5 z6 z7⟩),(9,⟨true,w8 x0 x1 x2 x3 x4 x5 x6 x7⟩)]) K=SqC x0 x1 x2 x3 x4 x5 x6 x7 K:=by kernel_rfl
theorem aq_comm (x y:Nat):aq x y=aq y x:=by unfold aq;rw[Nat.add_comm]
theorem lg_ge {x:Nat} (h:x<qN):0≤lgN x↔sqN x=true:=by
 rw[sqN_iff h]
 rcases lgN_cases h with e | e | e<;>rw[e]<;>decide
theorem sqe_walk {x0 x1 x2 x3 x4 x5 x6 x7:Int} {p:F2} {K:SV→Mem→Prop} (hup:KUp K) (hp:Ep x0 x1 x2 x3 x4 x5 x6 x7 p) (hs:sqN (enorm p)=true) (hK:∀j0 j1 j2 j3 j4 j5 j6 j7,Ep j0 j1 j2 j3 j4 j5 j6 j7 (sqE p)→K (.ptr 1 (.lit 0)) (memL [(1,⟨false,w8 j0 j1 j2 j3 j4 j5 j6 j7⟩),(9,⟨true,w8 x0 x1 x2 x3 x4 x5 x6 x7⟩)])):SqC x0 x1 x2 x3 x4 x5 x6 x7 K:=by
 unfold SqC
 simp only[decide_eq_true_eq,decide_eq_false_iff_not]
 have ok:=sqE_ok p
 refine ⟨hp.b.wd,fun h0=>⟨⟨hp.a.wd,Vlt' hp.a⟩,?_⟩,fun h0=> ?_⟩
 ·have h0:=(hp.b.zero hp.lb).1 h0
  rw[B1_eq,show N4 x0 x1 x2 x3=_ from Vx hp.a.ws,lgV_mont hp.la]
  refine ⟨fun hl=> ?_,fun hl=> ?_⟩
  ·have hq:=(lg_ge hp.la).1 hl
   have e:sqE p=⟨rtN p.a,0⟩:=by unfold sqE;rw[if_pos h0,if_pos hq]
   rw[e]at hK
   refine sqC_m hp.a hp.la hq ?_
   intro a0 a1 a2 a3 ha
   exact hK _ _ _ _ _ _ _ _ ⟨ha,zero_el,rtN_lt _,q_pos⟩
  ·have hq:¬sqN p.a=true:=fun c=>hl ((lg_ge hp.la).2 c)
   have e:sqE p=⟨0,rtN (dq 0 p.a)⟩:=by unfold sqE;rw[if_pos h0,if_neg hq]
   rw[e]at hK
   refine ngC_q hp.a hp.la ?_
   intro a0 a1 a2 a3 ha
   refine sqC_m ha (dq_lt _ _) (sq_neg hp.la hq) ?_
   intro b0 b1 b2 b3 hb
   exact hup.le (memL_sub [1,9,593] rfl (by decide) (by
    intro x hx
    simp only[List.mem_cons,List.not_mem_nil,or_false]at hx ⊢
    rcases hx with rfl | rfl<;>simp)) (hK _ _ _ _ _ _ _ _ ⟨zero_el,hb,q_pos,rtN_lt _⟩)
 ·have h0:=fun e=>h0 ((hp.b.zero hp.lb).2 e)
  have sub:∀ {j0 j1 j2 j3 j4 j5 j6 j7 d0 d1 d2 d3 m0 m1 m2 m3 n0 n1 n2 n3 t0 t1 t2 t3 v0 v1 v2 v3:Int},K (.ptr 1 (.lit 0)) (memL [(1,⟨false,w8 j0 j1 j2 j3 j4 j5 j6 j7⟩),(9,⟨true,w8 x0 x1 x2 x3 x4 x5 x6 x7⟩)])→K (.ptr 1 (.lit 0)) (memL [(1,⟨false,w8 j0 j1 j2 j3 j4 j5 j6 j7⟩),(9,⟨true,w8 x0 x1 x2 x3 x4 x5 x6 x7⟩),(553,⟨false,w4 d0 d1 d2 d3⟩),(561,⟨false,w4 m0 m1 m2 m3⟩),(569,⟨false,w4 n0 n1 n2 n3⟩),(577,⟨false,w4 t0 t1 t2 t3⟩),(585,⟨false,w4 v0 v1 v2 v3⟩)]):=by
   intro j0 j1 j2 j3 j4 j5 j6 j7 d0 d1 d2 d3 m0 m1 m2 m3 n0 n1 n2 n3 t0 t1 t2 t3 v0 v1 v2 v3 hk
   exact hup.le (memL_sub [1,9,553,561,569,577,585] rfl (by decide) (by
    intro x hx
    simp only[List.mem_cons,List.not_mem_nil,or_false]at hx ⊢
    rcases hx with rfl | rfl<;>simp)) hk
  refine mulC_q hp.a hp.a ?_
  intro a0 a1 a2 a3 ha
  refine mulC_q hp.b hp.b ?_
  intro b0 b1 b2 b3 hb
  refine addC_q hb ha ?_
  intro c0 c1 c2 c3 hc
  rw[aq_comm,show aq (mq p.a p.a) (mq p.b p.b)=enorm p from rfl]at hc
  rw[B4_eq]
  refine ⟨_,hc,?_⟩
  intro d0 d1 d2 d3 hd
  have hd:=hd.rt
  rw[Nat.mod_eq_of_lt (enorm_lt p)]at hd
  refine addC_q hp.a hd ?_
  intro e0 e1 e2 e3 he
  refine dblC_q he ?_
  intro t0 t1 t2 t3 ht
  rw[B4_eq]
  refine ⟨_,ht,?_⟩
  intro s0 s1 s2 s3 hs
  refine mulC_q he hs ?_
  intro m0 m1 m2 m3 hm
  refine mulC_q hp.b hs ?_
  intro n0 n1 n2 n3 hn
  refine dblC_q hm ?_
  intro u0 u1 u2 u3 hu
  refine mulC_q hu hu ?_
  intro v0 v1 v2 v3 hv
  refine ⟨⟨hv.wd,ht.wd⟩,fun hx=> ?_,fun hx=> ?_⟩
  ·have hx:=(hv.same ht (mq_lt _ _) (db2_lt _)).1 hx
   have e:sqE p=⟨mq (sqX p) (sqS p),mq p.b (sqS p)⟩:=by unfold sqE;rw[if_neg h0];exact if_pos hx
   rw[e]at hK
   exact sub (hK _ _ _ _ _ _ _ _ ⟨hm,hn,mq_lt _ _,mq_lt _ _⟩)
  ·have hx:=fun e=>hx ((hv.same ht (mq_lt _ _) (db2_lt _)).2 e)
   have e:sqE p=⟨mq p.b (sqS p),dq 0 (mq (sqX p) (sqS p))⟩:=by unfold sqE;rw[if_neg h0];exact if_neg hx
   rw[e]at hK
   refine ngC_q hm (mq_lt _ _) ?_
   intro o0 o1 o2 o3 ho
   exact sub (hK _ _ _ _ _ _ _ _ ⟨hn,ho,mq_lt _ _,dq_lt _ _⟩)
def gSqE2:G0:=fun args l K=>
 match args,l with
 | [.ptr 1 (.lit 0),.ptr 9 (.lit 0)],[(1,⟨false,z⟩),(9,⟨true,x⟩)]=>c8 z fun _ _ _ _ _ _ _ _=>c8 x fun x0 x1 x2 x3 x4 x5 x6 x7=>∃p,(Ep x0 x1 x2 x3 x4 x5 x6 x7 p∧sqN (enorm p)=true)∧∀j0 j1 j2 j3 j4 j5 j6 j7,Ep j0 j1 j2 j3 j4 j5 j6 j7 (sqE p)→K (.ptr 1 (.lit 0)) (memL [(1,⟨false,w8 j0 j1 j2 j3 j4 j5 j6 j7⟩),(9,⟨true,w8 x0 x1 x2 x3 x4 x5 x6 x7⟩)])
 | _,_=>False
theorem sqe2_good:Good gSqE2:=by
 constructor
 ·intro args l K K' hk h
  unfold gSqE2 at h ⊢
  split at h
  ·exact c8_mono (fun _ _ _ _ _ _ _ _ h=>c8_mono (fun _ _ _ _ _ _ _ _ h=>h.elim fun p h=>⟨p,h.1,fun j0 j1 j2 j3 j4 j5 j6 j7 e=>hk _ _ (h.2 j0 j1 j2 j3 j4 j5 j6 j7 e)⟩) h) h
  ·exact h.elim
 ·intro args l K h
  unfold gSqE2 at h
  split at h
  ·obtain ⟨_,_,_,_,_,_,_,_,_,h⟩:=c8_ex h
   obtain ⟨_,_,_,_,_,_,_,_,_,h⟩:=c8_ex h
   obtain ⟨p,_,h⟩:=h
   obtain ⟨j0,j1,j2,j3,j4,j5,j6,j7,e⟩:=Ep.ex (sqE_ok p)
   exact ⟨_,_,h _ _ _ _ _ _ _ _ e⟩
  ·exact h.elim
theorem sqe2_ok (args:List SV) (l:List (Nat×Reg)) (K:SV→Mem→Prop) (hup:KUp K) (h:gSqE2 args l K):∃U,execF cxSqr2 U Tryz.f39 64 args (memL l) K:=by
 unfold gSqE2 at h
 split at h
 ·obtain ⟨z0,z1,z2,z3,z4,z5,z6,z7,rfl,h0⟩:=c8_ex h
  obtain ⟨x0,x1,x2,x3,x4,x5,x6,x7,rfl,p,⟨hp,hs⟩,hK⟩:=c8_ex h0
  exact ⟨u9,(vc_sqe z0 z1 z2 z3 z4 z5 z6 z7 x0 x1 x2 x3 x4 x5 x6 x7 K).mpr (sqe_walk hup hp hs hK)⟩
 ·exact h.elim
def kSqE2:Ef Tryz.prog:=mkE mixed 39 Tryz.func39 (by decide) (by kernel_rfl) [] [.ptr 8 false,.ptr 8 true] gSqE2 sqe2_good sqe2_ok
def cxBe:Cx Tryz.prog:= { rds:= [cBits],efs:= [],eqs:= [] }
theorem vc_be (x0 x1 x2 x3 x4 x5 x6 x7:Int) (P:SV→Prop):(execF cxBe u9 Tryz.f90 64 [.ptr 1 (.lit 0)] (memL [(1,⟨true,w8 x0 x1 x2 x3 x4 x5 x6 x7⟩)]) fun v _=>P v)=
 (W4 x0 x1 x2 x3∧B4 (bitsV x0 x1 x2 x3 0) (bitsV x0 x1 x2 x3 1) (bitsV x0 x1 x2 x3 2) (bitsV x0 x1 x2 x3 3) fun a b c d=>W4 x4 x5 x6 x7∧B4 (bitsV x4 x5 x6 x7 0) (bitsV x4 x5 x6 x7 1) (bitsV x4 x5 x6 x7 2) (bitsV x4 x5 x6 x7 3) fun e f g h=>B4 a b c d fun i j k l=>B4 e f g h fun m n o p=>P (.agg [U i,U j,U k,U l,U m,U n,U o,U p])):=by kernel_rfl
def rBe:R0:=fun args l=>
 match args,l with
 | [.ptr 1 (.lit 0)],[(1,⟨true,x⟩)]=>r8 x fun x0 x1 x2 x3 x4 x5 x6 x7=>some (some (W4 x0 x1 x2 x3∧W4 x4 x5 x6 x7),.agg [U (bitsV x0 x1 x2 x3 0),U (bitsV x0 x1 x2 x3 1),U (bitsV x0 x1 x2 x3 2),U (bitsV x0 x1 x2 x3 3),U (bitsV x4 x5 x6 x7 0),U (bitsV x4 x5 x6 x7 1),U (bitsV x4 x5 x6 x7 2),U (bitsV x4 x5 x6 x7 3)])
 | _,_=>none
theorem be_ok (args:List SV) (l:List (Nat×Reg)) (p:Ob) (v:SV) (h:rBe args l=some (p,v)) (hp:p.ok):∃U,execF cxBe U Tryz.f90 64 args (memL l) fun v' _=>v'=v:=by
 unfold rBe at h
 split at h
 ·obtain ⟨x0,x1,x2,x3,x4,x5,x6,x7,rfl,q⟩:=r8_ex h
  simp only[Option.some.injEq,Prod.mk.injEq]at q
  obtain ⟨rfl,rfl⟩:=q
  obtain ⟨h1,h2⟩:W4 x0 x1 x2 x3∧W4 x4 x5 x6 x7:=hp
  refine ⟨u9,?_⟩
  rw[vc_be x0 x1 x2 x3 x4 x5 x6 x7 fun v'=>v'=_,B4_eq]
  refine ⟨h1,?_⟩
  rw[B4_eq,B4_eq,B4_eq]
  exact ⟨h2,rfl⟩
 ·cases h
def cBe:Rd Tryz.prog:=mkR mixed 90 Tryz.func90 (by decide) (by kernel_rfl) [] [.ptr 8 true] rBe be_ok
def cxNz:Cx Tryz.prog:= { rds:= [],efs:= [],eqs:= [] }
theorem vc_nz (x0 x1 x2 x3:Int) (P:SV→Prop):(execF cxNz u9 Tryz.f91 64 [.ptr 1 (.lit 0)] (memL [(1,⟨true,w4 x0 x1 x2 x3⟩)]) fun v _=>P v)=
 (B1 (bor .u64 x0 x1) fun a=>B1 (bor .u64 a x2) fun b=>B1 (bor .u64 b x3) fun c=>P (U c)):=by kernel_rfl
def rNz:R0:=fun args l=>
 match args,l with
 | [.ptr 1 (.lit 0)],[(1,⟨true,x⟩)]=>r4 x fun x0 x1 x2 x3=>some (none,U (bor .u64 (bor .u64 (bor .u64 x0 x1) x2) x3))
 | _,_=>none
theorem nz_ok (args:List SV) (l:List (Nat×Reg)) (p:Ob) (v:SV) (h:rNz args l=some (p,v)) (hp:p.ok):∃U,execF cxNz U Tryz.f91 64 args (memL l) fun v' _=>v'=v:=by
 unfold rNz at h
 split at h
 ·obtain ⟨x0,x1,x2,x3,rfl,q⟩:=r4_ex h
  simp only[Option.some.injEq,Prod.mk.injEq]at q
  obtain ⟨rfl,rfl⟩:=q
  refine ⟨u9,?_⟩
  rw[vc_nz x0 x1 x2 x3 fun v'=>v'=_,B1_eq,B1_eq,B1_eq]
 ·cases h
def cNz:Rd Tryz.prog:=mkR mixed 91 Tryz.func91 (by decide) (by kernel_rfl) [] [.ptr 4 true] rNz nz_ok
def cxSg2:Cx Tryz.prog:= { rds:= [cBe,cNz],efs:= [],eqs:= [] }
theorem vc_sg2 (x0 x1 x2 x3 x4 x5 x6 x7:Int) (P:SV→Prop):(execF cxSg2 u9 Tryz.f40 64 [.ptr 1 (.lit 0)] (memL [(1,⟨true,w8 x0 x1 x2 x3 x4 x5 x6 x7⟩)]) fun v _=>P v)=
 ((W4 x0 x1 x2 x3∧W4 x4 x5 x6 x7)∧B4 (bitsV x0 x1 x2 x3 0) (bitsV x0 x1 x2 x3 1) (bitsV x0 x1 x2 x3 2) (bitsV x0 x1 x2 x3 3) fun a b c d=>B4 (bitsV x4 x5 x6 x7 0) (bitsV x4 x5 x6 x7 1) (bitsV x4 x5 x6 x7 2) (bitsV x4 x5 x6 x7 3) fun e f g h=>B1 (Int.tmod a 2) fun s=>B1 (bor .u64 (bor .u64 (bor .u64 a b) c) d) fun z=>B1 (IntKind.u64.wrap (0-z)) fun i=>B1 (bor .u64 z i) fun j=>
  B1 (shrv .u64 j 63) fun k=>B1 (bxor .u64 1 k) fun l=>B1 (band .u64 1 s) fun m=>B1 (bor .u64 0 m) fun n=>B1 (band .u64 1 l) fun o=>B1 (Int.tmod e 2) fun p=>B1 (band .u64 o p) fun q=>B1 (bor .u64 n q) fun r=>P (U r)):=by kernel_rfl
theorem nz_flag {z:Int} (hz:Wd z):bxor .u64 1 (shrv .u64 (bor .u64 z (IntKind.u64.wrap (0-z))) 63)=if z=0 then 1 else 0:=by
 by_cases h0:z=0
 ·subst h0
  decide +kernel
 ·rw[if_neg h0]
  unfold Wd at hz
  have e:IntKind.u64.wrap (0-z)=18446744073709551616-z:=by rw[wu64];omega
  have w:Wd (18446744073709551616-z):=by unfold Wd;omega
  rw[e]
  obtain ⟨b1,b2⟩:=bor_eq (a:=z) (b:=18446744073709551616-z) (by unfold Wd;omega) w
  have l1:z.toNat≤z.toNat ||| (18446744073709551616-z).toNat:=Nat.left_le_or
  have l2:(18446744073709551616-z).toNat≤z.toNat ||| (18446744073709551616-z).toNat:=Nat.right_le_or
  unfold Wd at b2
  rw[shr63 (by omega)]
  have:bor .u64 z (18446744073709551616-z) / 9223372036854775808=1:=by omega
  rw[this]
  decide +kernel
theorem nz_words {A:Nat} (h:A<qN):Wd (bor .u64 (bor .u64 (bor .u64 (lm A 0) (lm A 1)) (lm A 2)) (lm A 3))∧(bor .u64 (bor .u64 (bor .u64 (lm A 0) (lm A 1)) (lm A 2)) (lm A 3)=0↔A=0):=by
 obtain ⟨w0,w1,w2,w3⟩:=lm4_wd A
 obtain ⟨a1,b1⟩:=bor_zero w0 w1
 obtain ⟨a2,b2⟩:=bor_zero a1 w2
 obtain ⟨a3,b3⟩:=bor_zero a2 w3
 refine ⟨a3,?_⟩
 have v:=(ws_q h).val
 have z:=V4_zero w0 w1 w2 w3
 rw[b3,b2,b1,and_assoc,and_assoc,←z,v]
 omega
theorem sg2_val {s p:Nat} {z:Bool} (hs:s<2) (hp:p<2) (hz:z=true→s=0):
  bor .u64 (bor .u64 0 (band .u64 1 (s:Int))) (band .u64 (band .u64 1 (if z=true then 1 else 0)) (p:Int))=((if z=true then p else s:Nat):Int):=by
 have:s=0∨s=1:=by omega
 have:p=0∨p=1:=by omega
 cases z
 ·rcases ‹s=0∨s=1› with rfl | rfl<;>rcases ‹p=0∨p=1› with rfl | rfl<;>decide +kernel
 ·have:=hz rfl
  subst this
  rcases ‹p=0∨p=1› with rfl | rfl<;>decide +kernel
def rSg2:R0:=fun args l=>
 match args,l with
 | [.ptr 1 (.lit 0)],[(1,⟨true,x⟩)]=>r8 x fun x0 x1 x2 x3 x4 x5 x6 x7=>some (some (W4 x0 x1 x2 x3∧W4 x4 x5 x6 x7),.int .u64 (.sym ((esg (bE x0 x1 x2 x3 x4 x5 x6 x7):Nat):Int)))
 | _,_=>none
theorem sg2_ok (args:List SV) (l:List (Nat×Reg)) (p:Ob) (v:SV) (h:rSg2 args l=some (p,v)) (hp:p.ok):∃U,execF cxSg2 U Tryz.f40 64 args (memL l) fun v' _=>v'=v:=by
 unfold rSg2 at h
 split at h
 ·obtain ⟨x0,x1,x2,x3,x4,x5,x6,x7,rfl,q⟩:=r8_ex h
  simp only[Option.some.injEq,Prod.mk.injEq]at q
  obtain ⟨rfl,rfl⟩:=q
  obtain ⟨h1,h2⟩:W4 x0 x1 x2 x3∧W4 x4 x5 x6 x7:=hp
  refine ⟨u9,?_⟩
  rw[vc_sg2 x0 x1 x2 x3 x4 x5 x6 x7 fun v'=>v'=_]
  refine ⟨⟨h1,h2⟩,?_⟩
  rw[B4_eq,B4_eq]
  simp only[B1_eq]
  have lA:=mmul_lt (V4 x0 x1 x2 x3).toNat 1
  have lB:=mmul_lt (V4 x4 x5 x6 x7).toNat 1
  have eb:esg (bE x0 x1 x2 x3 x4 x5 x6 x7)=if (mmul (V4 x0 x1 x2 x3).toNat 1)=0 then mmul (V4 x4 x5 x6 x7).toNat 1%2 else mmul (V4 x0 x1 x2 x3).toNat 1%2:=rfl
  rw[eb]
  unfold bitsV
  generalize mmul (V4 x0 x1 x2 x3).toNat 1=A at *
  generalize mmul (V4 x4 x5 x6 x7).toNat 1=B at *
  obtain ⟨wz,ez⟩:=nz_words lA
  rw[nz_flag wz,par (ws_q lA),par (ws_q lB)]
  have f:=sg2_val (s:=A%2) (p:=B%2) (z:=decide (A=0)) (by omega) (by omega) (fun e=>by have:=of_decide_eq_true e;omega)
  simp only[decide_eq_true_eq]at f
  have g:(if bor .u64 (bor .u64 (bor .u64 (lm A 0) (lm A 1)) (lm A 2)) (lm A 3)=0 then (1:Int)else 0)=if A=0 then 1 else 0:=by
   by_cases c:A=0
   ·rw[if_pos (ez.2 c),if_pos c]
   ·rw[if_neg (fun e=>c (ez.1 e)),if_neg c]
  rw[g,f]
  rfl
 ·cases h
def cSg2:Rd Tryz.prog:=mkR mixed 40 Tryz.func40 (by decide) (by kernel_rfl) [] [.ptr 8 true] rSg2 sg2_ok
end Go.Sx
