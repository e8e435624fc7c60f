/- Part 5 of the proof: for every number of E2 (two rows of four words) the law FnMapG2 returns true (a verified symbolic evaluator, contracts of each function reached, the law, its row and card). Conditions: those of the given statement, none besides. -/
import Derived.Test.YtajbcjgonpoojaaGreatDoorRows
import Derived.Test.YtajbcjgonpoojaaGreatDoorTie
import Derived.Test.YtajbcjgonpoojaaGreatDoorCards
import Derived.ProofKit
import Derived.LaidMore
import Derived.LaidLaws
import Derived.LaidHandle
import Derived.MakeChecks
import Derived.OpenShut
import Derived.Carry
import Derived.Stop.Joined
import Derived.SevenTiedAt
import Derived.Laws.IdiomArrays
import Derived.Test.YtajbcjgonpoojaaGreatDoorSx4
namespace Go.Sx
open Go Go.Proofs Go.Num
set_option maxRecDepth 100000
def cxMc2:Cx Tryz.prog:= { rds:= [cLgE,cSg2],efs:= [kSoE,kSqEw,kMlEw,kAdEw,kSbEw,kInE,kBtw,kSlE,kSqE2,kNgEw],eqs:= [] }
def eM (x0 x1 x2 x3 x4 x5 x6 x7 y0 y1 y2 y3 y4 y5 y6 y7:Int) (K:Int→Int→Int→Int→Int→Int→Int→Int→Prop):Prop:=∃p q,(Ep x0 x1 x2 x3 x4 x5 x6 x7 p∧Ep y0 y1 y2 y3 y4 y5 y6 y7 q)∧∀j0 j1 j2 j3 j4 j5 j6 j7,Ep j0 j1 j2 j3 j4 j5 j6 j7 (emul p q)→K j0 j1 j2 j3 j4 j5 j6 j7
theorem eM_q {x0 x1 x2 x3 x4 x5 x6 x7 y0 y1 y2 y3 y4 y5 y6 y7:Int} {p q:F2} {K:Int→Int→Int→Int→Int→Int→Int→Int→Prop} (hp:Ep x0 x1 x2 x3 x4 x5 x6 x7 p) (hq:Ep y0 y1 y2 y3 y4 y5 y6 y7 q) (h:∀j0 j1 j2 j3 j4 j5 j6 j7,Ep j0 j1 j2 j3 j4 j5 j6 j7 (emul p q)→K j0 j1 j2 j3 j4 j5 j6 j7):eM x0 x1 x2 x3 x4 x5 x6 x7 y0 y1 y2 y3 y4 y5 y6 y7 K:=⟨p,q,⟨hp,hq⟩,h⟩
def eA (x0 x1 x2 x3 x4 x5 x6 x7 y0 y1 y2 y3 y4 y5 y6 y7:Int) (K:Int→Int→Int→Int→Int→Int→Int→Int→Prop):Prop:=∃p q,(Ep x0 x1 x2 x3 x4 x5 x6 x7 p∧Ep y0 y1 y2 y3 y4 y5 y6 y7 q)∧∀j0 j1 j2 j3 j4 j5 j6 j7,Ep j0 j1 j2 j3 j4 j5 j6 j7 (eadd p q)→K j0 j1 j2 j3 j4 j5 j6 j7
theorem eA_q {x0 x1 x2 x3 x4 x5 x6 x7 y0 y1 y2 y3 y4 y5 y6 y7:Int} {p q:F2} {K:Int→Int→Int→Int→Int→Int→Int→Int→Prop} (hp:Ep x0 x1 x2 x3 x4 x5 x6 x7 p) (hq:Ep y0 y1 y2 y3 y4 y5 y6 y7 q) (h:∀j0 j1 j2 j3 j4 j5 j6 j7,Ep j0 j1 j2 j3 j4 j5 j6 j7 (eadd p q)→K j0 j1 j2 j3 j4 j5 j6 j7):eA x0 x1 x2 x3 x4 x5 x6 x7 y0 y1 y2 y3 y4 y5 y6 y7 K:=⟨p,q,⟨hp,hq⟩,h⟩
def eS (x0 x1 x2 x3 x4 x5 x6 x7 y0 y1 y2 y3 y4 y5 y6 y7:Int) (K:Int→Int→Int→Int→Int→Int→Int→Int→Prop):Prop:=∃p q,(Ep x0 x1 x2 x3 x4 x5 x6 x7 p∧Ep y0 y1 y2 y3 y4 y5 y6 y7 q)∧∀j0 j1 j2 j3 j4 j5 j6 j7,Ep j0 j1 j2 j3 j4 j5 j6 j7 (esub p q)→K j0 j1 j2 j3 j4 j5 j6 j7
theorem eS_q {x0 x1 x2 x3 x4 x5 x6 x7 y0 y1 y2 y3 y4 y5 y6 y7:Int} {p q:F2} {K:Int→Int→Int→Int→Int→Int→Int→Int→Prop} (hp:Ep x0 x1 x2 x3 x4 x5 x6 x7 p) (hq:Ep y0 y1 y2 y3 y4 y5 y6 y7 q) (h:∀j0 j1 j2 j3 j4 j5 j6 j7,Ep j0 j1 j2 j3 j4 j5 j6 j7 (esub p q)→K j0 j1 j2 j3 j4 j5 j6 j7):eS x0 x1 x2 x3 x4 x5 x6 x7 y0 y1 y2 y3 y4 y5 y6 y7 K:=⟨p,q,⟨hp,hq⟩,h⟩
def eQ (x0 x1 x2 x3 x4 x5 x6 x7:Int) (K:Int→Int→Int→Int→Int→Int→Int→Int→Prop):Prop:=∃p,Ep x0 x1 x2 x3 x4 x5 x6 x7 p∧∀j0 j1 j2 j3 j4 j5 j6 j7,Ep j0 j1 j2 j3 j4 j5 j6 j7 (emul p p)→K j0 j1 j2 j3 j4 j5 j6 j7
theorem eQ_q {x0 x1 x2 x3 x4 x5 x6 x7:Int} {p:F2} {K:Int→Int→Int→Int→Int→Int→Int→Int→Prop} (hp:Ep x0 x1 x2 x3 x4 x5 x6 x7 p) (h:∀j0 j1 j2 j3 j4 j5 j6 j7,Ep j0 j1 j2 j3 j4 j5 j6 j7 (emul p p)→K j0 j1 j2 j3 j4 j5 j6 j7):eQ x0 x1 x2 x3 x4 x5 x6 x7 K:=⟨p,hp,h⟩
def eI (x0 x1 x2 x3 x4 x5 x6 x7:Int) (K:Int→Int→Int→Int→Int→Int→Int→Int→Prop):Prop:=∃p,Ep x0 x1 x2 x3 x4 x5 x6 x7 p∧∀j0 j1 j2 j3 j4 j5 j6 j7,Ep j0 j1 j2 j3 j4 j5 j6 j7 (einv p)→K j0 j1 j2 j3 j4 j5 j6 j7
theorem eI_q {x0 x1 x2 x3 x4 x5 x6 x7:Int} {p:F2} {K:Int→Int→Int→Int→Int→Int→Int→Int→Prop} (hp:Ep x0 x1 x2 x3 x4 x5 x6 x7 p) (h:∀j0 j1 j2 j3 j4 j5 j6 j7,Ep j0 j1 j2 j3 j4 j5 j6 j7 (einv p)→K j0 j1 j2 j3 j4 j5 j6 j7):eI x0 x1 x2 x3 x4 x5 x6 x7 K:=⟨p,hp,h⟩
def eN (x0 x1 x2 x3 x4 x5 x6 x7:Int) (K:Int→Int→Int→Int→Int→Int→Int→Int→Prop):Prop:=∃p,Ep x0 x1 x2 x3 x4 x5 x6 x7 p∧∀j0 j1 j2 j3 j4 j5 j6 j7,Ep j0 j1 j2 j3 j4 j5 j6 j7 (eneg p)→K j0 j1 j2 j3 j4 j5 j6 j7
theorem eN_q {x0 x1 x2 x3 x4 x5 x6 x7:Int} {p:F2} {K:Int→Int→Int→Int→Int→Int→Int→Int→Prop} (hp:Ep x0 x1 x2 x3 x4 x5 x6 x7 p) (h:∀j0 j1 j2 j3 j4 j5 j6 j7,Ep j0 j1 j2 j3 j4 j5 j6 j7 (eneg p)→K j0 j1 j2 j3 j4 j5 j6 j7):eN x0 x1 x2 x3 x4 x5 x6 x7 K:=⟨p,hp,h⟩
def eZ (x0 x1 x2 x3 x4 x5 x6 x7 y0 y1 y2 y3 y4 y5 y6 y7:Int) (K:Int→Int→Int→Int→Int→Int→Int→Int→Prop):Prop:=∃q p,(Ep y0 y1 y2 y3 y4 y5 y6 y7 q∧Ep x0 x1 x2 x3 x4 x5 x6 x7 p)∧∀j0 j1 j2 j3 j4 j5 j6 j7,Ep j0 j1 j2 j3 j4 j5 j6 j7 (esub p q)→K j0 j1 j2 j3 j4 j5 j6 j7
theorem eZ_q {x0 x1 x2 x3 x4 x5 x6 x7 y0 y1 y2 y3 y4 y5 y6 y7:Int} {p q:F2} {K:Int→Int→Int→Int→Int→Int→Int→Int→Prop} (hp:Ep x0 x1 x2 x3 x4 x5 x6 x7 p) (hq:Ep y0 y1 y2 y3 y4 y5 y6 y7 q) (h:∀j0 j1 j2 j3 j4 j5 j6 j7,Ep j0 j1 j2 j3 j4 j5 j6 j7 (esub p q)→K j0 j1 j2 j3 j4 j5 j6 j7):eZ x0 x1 x2 x3 x4 x5 x6 x7 y0 y1 y2 y3 y4 y5 y6 y7 K:=⟨q,p,⟨hq,hp⟩,h⟩
def eR (x0 x1 x2 x3 x4 x5 x6 x7:Int) (K:Int→Int→Int→Int→Int→Int→Int→Int→Prop):Prop:=∃p,(Ep x0 x1 x2 x3 x4 x5 x6 x7 p∧sqN (enorm p)=true)∧∀j0 j1 j2 j3 j4 j5 j6 j7,Ep j0 j1 j2 j3 j4 j5 j6 j7 (sqE p)→K j0 j1 j2 j3 j4 j5 j6 j7
theorem eR_q {x0 x1 x2 x3 x4 x5 x6 x7:Int} {p:F2} {K:Int→Int→Int→Int→Int→Int→Int→Int→Prop} (hp:Ep x0 x1 x2 x3 x4 x5 x6 x7 (gE (mxE p))) (hs:sqN (enorm (gE (mxE p)))=true) (h:∀j0 j1 j2 j3 j4 j5 j6 j7,Ep j0 j1 j2 j3 j4 j5 j6 j7 (sqE (gE (mxE p)))→K j0 j1 j2 j3 j4 j5 j6 j7):eR x0 x1 x2 x3 x4 x5 x6 x7 K:=⟨_,⟨hp,hs⟩,h⟩
def eL (s x0 x1 x2 x3 x4 x5 x6 x7 y0 y1 y2 y3 y4 y5 y6 y7:Int) (K:Int→Int→Int→Int→Int→Int→Int→Int→Prop):Prop:=(s=0∨s=1∨s= -1)∧∃p q,(Ep x0 x1 x2 x3 x4 x5 x6 x7 p∧Ep y0 y1 y2 y3 y4 y5 y6 y7 q)∧∀j0 j1 j2 j3 j4 j5 j6 j7,Ep j0 j1 j2 j3 j4 j5 j6 j7 (seE s p q)→K j0 j1 j2 j3 j4 j5 j6 j7
theorem eL_q {s x0 x1 x2 x3 x4 x5 x6 x7 y0 y1 y2 y3 y4 y5 y6 y7:Int} {p q:F2} {K:Int→Int→Int→Int→Int→Int→Int→Int→Prop} (hs:s=0∨s=1∨s= -1) (hp:Ep x0 x1 x2 x3 x4 x5 x6 x7 p) (hq:Ep y0 y1 y2 y3 y4 y5 y6 y7 q) (h:∀j0 j1 j2 j3 j4 j5 j6 j7,Ep j0 j1 j2 j3 j4 j5 j6 j7 (seE s p q)→K j0 j1 j2 j3 j4 j5 j6 j7):eL s x0 x1 x2 x3 x4 x5 x6 x7 y0 y1 y2 y3 y4 y5 y6 y7 K:=⟨hs,p,q,⟨hp,hq⟩,h⟩
def eO (K:Int→Int→Int→Int→Int→Int→Int→Int→Prop):Prop:=∀j0 j1 j2 j3 j4 j5 j6 j7,Ep j0 j1 j2 j3 j4 j5 j6 j7 oneE→K j0 j1 j2 j3 j4 j5 j6 j7
theorem eO_q {K:Int→Int→Int→Int→Int→Int→Int→Int→Prop} (h:∀j0 j1 j2 j3 j4 j5 j6 j7,Ep j0 j1 j2 j3 j4 j5 j6 j7 oneE→K j0 j1 j2 j3 j4 j5 j6 j7):eO K:=h
def eB (K:Int→Int→Int→Int→Int→Int→Int→Int→Prop):Prop:=∀j0 j1 j2 j3 j4 j5 j6 j7,Ep j0 j1 j2 j3 j4 j5 j6 j7 twE→K j0 j1 j2 j3 j4 j5 j6 j7
theorem eB_q {K:Int→Int→Int→Int→Int→Int→Int→Int→Prop} (h:∀j0 j1 j2 j3 j4 j5 j6 j7,Ep j0 j1 j2 j3 j4 j5 j6 j7 twE→K j0 j1 j2 j3 j4 j5 j6 j7):eB K:=h
def McC2 (x0 x1 x2 x3 x4 x5 x6 x7:Int) (P:SV→Prop):Prop:=
  eO fun p0a p0b p0c p0d p0e p0f p0g p0h=>
  eQ x0 x1 x2 x3 x4 x5 x6 x7 fun p1a p1b p1c p1d p1e p1f p1g p1h=>
  eM p1a p1b p1c p1d p1e p1f p1g p1h 15219334786797146878 8431472696017589261 15336528771359260718 196732871012706162 4100506350182530919 7345568344173317438 15513160039642431658 90557763186888013 fun p2a p2b p2c p2d p2e p2f p2g p2h=>
  eA p0a p0b p0c p0d p0e p0f p0g p0h p2a p2b p2c p2d p2e p2f p2g p2h fun p3a p3b p3c p3d p3e p3f p3g p3h=>
  eZ p0a p0b p0c p0d p0e p0f p0g p0h p2a p2b p2c p2d p2e p2f p2g p2h fun p4a p4b p4c p4d p4e p4f p4g p4h=>
  eM p4a p4b p4c p4d p4e p4f p4g p4h p3a p3b p3c p3d p3e p3f p3g p3h fun p5a p5b p5c p5d p5e p5f p5g p5h=>
  eI p5a p5b p5c p5d p5e p5f p5g p5h fun p6a p6b p6c p6d p6e p6f p6g p6h=>
  eM x0 x1 x2 x3 x4 x5 x6 x7 p4a p4b p4c p4d p4e p4f p4g p4h fun p7a p7b p7c p7d p7e p7f p7g p7h=>
  eM p7a p7b p7c p7d p7e p7f p7g p7h p6a p6b p6c p6d p6e p6f p6g p6h fun p8a p8b p8c p8d p8e p8f p8g p8h=>
  eM p8a p8b p8c p8d p8e p8f p8g p8h 12298500088583694207 17447120171744064890 14097510924717921191 2278398337453771183 4693446565795584099 18320164443970680666 6792758484113206563 2989688171181581768 fun p9a p9b p9c p9d p9e p9f p9g p9h=>
  eS 12997850613838968789 14304628359724097447 2950087706404981016 1237622763554136189 0 0 0 0 p9a p9b p9c p9d p9e p9f p9g p9h fun p10a p10b p10c p10d p10e p10f p10g p10h=>
  eQ p10a p10b p10c p10d p10e p10f p10g p10h fun p11a p11b p11c p11d p11e p11f p11g p11h=>
  eM p11a p11b p11c p11d p11e p11f p11g p11h p10a p10b p10c p10d p10e p10f p10g p10h fun p12a p12b p12c p12d p12e p12f p12g p12h=>
  eB fun p13a p13b p13c p13d p13e p13f p13g p13h=>
  eA p12a p12b p12c p12d p12e p12f p12g p12h p13a p13b p13c p13d p13e p13f p13g p13h fun p14a p14b p14c p14d p14e p14f p14g p14h=>
  (((W4 p14a p14b p14c p14d∧W4 p14e p14f p14g p14h)∧V4 p14a p14b p14c p14d<qI∧V4 p14e p14f p14g p14h<qI)∧B1 (lgN (enorm (bE p14a p14b p14c p14d p14e p14f p14g p14h))) fun l1=>B1 (shrv .i64 l1 1) fun s1=>
  eA 12997850613838968789 14304628359724097447 2950087706404981016 1237622763554136189 0 0 0 0 p9a p9b p9c p9d p9e p9f p9g p9h fun p15a p15b p15c p15d p15e p15f p15g p15h=>
  eQ p15a p15b p15c p15d p15e p15f p15g p15h fun p16a p16b p16c p16d p16e p16f p16g p16h=>
  eM p16a p16b p16c p16d p16e p16f p16g p16h p15a p15b p15c p15d p15e p15f p15g p15h fun p17a p17b p17c p17d p17e p17f p17g p17h=>
  eB fun p18a p18b p18c p18d p18e p18f p18g p18h=>
  eA p17a p17b p17c p17d p17e p17f p17g p17h p18a p18b p18c p18d p18e p18f p18g p18h fun p19a p19b p19c p19d p19e p19f p19g p19h=>
  (((W4 p19a p19b p19c p19d∧W4 p19e p19f p19g p19h)∧V4 p19a p19b p19c p19d<qI∧V4 p19e p19f p19g p19h<qI)∧B1 (lgN (enorm (bE p19a p19b p19c p19d p19e p19f p19g p19h))) fun l2=>B1 (shrv .i64 l2 1) fun s2=>
  B1 (bxor .i64 (-1) s1) fun s3=>B1 (bor .i64 s2 s3) fun s4=>
  eQ p3a p3b p3c p3d p3e p3f p3g p3h fun p20a p20b p20c p20d p20e p20f p20g p20h=>
  eM p20a p20b p20c p20d p20e p20f p20g p20h p6a p6b p6c p6d p6e p6f p6g p6h fun p21a p21b p21c p21d p21e p21f p21g p21h=>
  eQ p21a p21b p21c p21d p21e p21f p21g p21h fun p22a p22b p22c p22d p22e p22f p22g p22h=>
  eM p22a p22b p22c p22d p22e p22f p22g p22h 7191623630069643826 8333948550768170742 13001081703983517696 2062355016518372226 11163104453509316115 7271947710149976975 4894807947557820282 3366254582553786647 fun p23a p23b p23c p23d p23e p23f p23g p23h=>
  eA p23a p23b p23c p23d p23e p23f p23g p23h 15230403791020821917 754611498739239741 7381016538464732716 1011752739694698287 0 0 0 0 fun p24a p24b p24c p24d p24e p24f p24g p24h=>
  eL s1 p10a p10b p10c p10d p10e p10f p10g p10h p24a p24b p24c p24d p24e p24f p24g p24h fun p25a p25b p25c p25d p25e p25f p25g p25h=>
  eL s4 p15a p15b p15c p15d p15e p15f p15g p15h p25a p25b p25c p25d p25e p25f p25g p25h fun p26a p26b p26c p26d p26e p26f p26g p26h=>
  eQ p26a p26b p26c p26d p26e p26f p26g p26h fun p27a p27b p27c p27d p27e p27f p27g p27h=>
  eM p27a p27b p27c p27d p27e p27f p27g p27h p26a p26b p26c p26d p26e p26f p26g p26h fun p28a p28b p28c p28d p28e p28f p28g p28h=>
  eB fun p29a p29b p29c p29d p29e p29f p29g p29h=>
  eA p28a p28b p28c p28d p28e p28f p28g p28h p29a p29b p29c p29d p29e p29f p29g p29h fun p30a p30b p30c p30d p30e p30f p30g p30h=>
  eR p30a p30b p30c p30d p30e p30f p30g p30h fun p31a p31b p31c p31d p31e p31f p31g p31h=>
  ((W4 x0 x1 x2 x3∧W4 x4 x5 x6 x7)∧B1 ((esg (bE x0 x1 x2 x3 x4 x5 x6 x7):Nat):Int) fun g1=>((W4 p31a p31b p31c p31d∧W4 p31e p31f p31g p31h)∧B1 ((esg (bE p31a p31b p31c p31d p31e p31f p31g p31h):Nat):Int) fun g2=>B1 (bxor .u64 g1 g2) fun g3=>
  eN p31a p31b p31c p31d p31e p31f p31g p31h fun p32a p32b p32c p32d p32e p32f p32g p32h=>
  B1 (IntKind.i64.wrap g3) fun g4=>eL g4 p31a p31b p31c p31d p31e p31f p31g p31h p32a p32b p32c p32d p32e p32f p32g p32h fun p33a p33b p33c p33d p33e p33f p33g p33h=>
  B4 p26a p26b p26c p26d fun a0 a1 a2 a3=>B4 p26e p26f p26g p26h fun a4 a5 a6 a7=>B4 p33a p33b p33c p33d fun b0 b1 b2 b3=>B4 p33e p33f p33g p33h fun b4 b5 b6 b7=>P (.agg [U a0,U a1,U a2,U a3,U a4,U a5,U a6,U a7,U b0,U b1,U b2,U b3,U b4,U b5,U b6,U b7])))))
theorem vc_mc2 (x0 x1 x2 x3 x4 x5 x6 x7:Int) (P:SV→Prop):execF cxMc2 u9 Tryz.f17 64 [.ptr 1 (.lit 0)] (memL [(1,⟨true,w8 x0 x1 x2 x3 x4 x5 x6 x7⟩)]) (fun v _=>P v)=McC2 x0 x1 x2 x3 x4 x5 x6 x7 P:=by kernel_rfl
theorem gE_c {x:F2}:eadd (emul (emul x x) x) twE=gE x:=by
 rw[emul_comm (emul x x)]
 rfl
theorem seE_x {p:F2}:seE (bor .i64 (if sqN (enorm (gE (x2E p)))=true then (0:Int)else -1) (bxor .i64 (-1) (if sqN (enorm (gE (x1E p)))=true then (0:Int)else -1))) (x2E p) (seE (if sqN (enorm (gE (x1E p)))=true then (0:Int)else -1) (x1E p) (x3E p))=mxE p:=by
 rw[or_val]
 unfold mxE seE
 cases sqN (enorm (gE (x1E p)))<;>cases sqN (enorm (gE (x2E p)))<;>simp
theorem seE_y {p:F2}:seE (if esg p=esg (sqE (gE (mxE p)))then (0:Int)else 1) (sqE (gE (mxE p))) (eneg (sqE (gE (mxE p))))=myE p:=by
 rw[←my_impl p]
 unfold eadj seE
 by_cases h:esg p=esg (sqE (gE (mxE p)))
 ·rw[if_pos h,if_pos rfl,if_pos h.symm]
 ·rw[if_neg h,if_neg (by decide),if_neg fun e=>h e.symm]
theorem sel01 (c:Prop) [Decidable c]:(if c then (0:Int)else 1)=0∨(if c then (0:Int)else 1)=1∨(if c then (0:Int)else 1)= -1:=by
 split
 ·exact .inl rfl
 ·exact .inr (.inl rfl)
theorem mc2_walk {x0 x1 x2 x3 x4 x5 x6 x7:Int} {p:F2} {P:SV→Prop} (hu:Ep x0 x1 x2 x3 x4 x5 x6 x7 p) (hP:P (.agg [U (lm (mont (mxE p).a) 0),U (lm (mont (mxE p).a) 1),U (lm (mont (mxE p).a) 2),U (lm (mont (mxE p).a) 3),U (lm (mont (mxE p).b) 0),U (lm (mont (mxE p).b) 1),U (lm (mont (mxE p).b) 2),U (lm (mont (mxE p).b) 3),U (lm (mont (myE p).a) 0),U (lm (mont (myE p).a) 1),U (lm (mont (myE p).a) 2),U (lm (mont (myE p).a) 3),U (lm (mont (myE p).b) 0),U (lm (mont (myE p).b) 1),U (lm (mont (myE p).b) 2),U (lm (mont (myE p).b) 3)])):McC2 x0 x1 x2 x3 x4 x5 x6 x7 P:=by
 unfold McC2
 have kz:Ep 15230403791020821917 754611498739239741 7381016538464732716 1011752739694698287 0 0 0 0 oneE:=⟨one_el,zero_el,oneE_ok.1,oneE_ok.2⟩
 have k1:Ep 15219334786797146878 8431472696017589261 15336528771359260718 196732871012706162 4100506350182530919 7345568344173317438 15513160039642431658 90557763186888013 cgE:=⟨⟨by decide +kernel,by decide +kernel,by decide +kernel,by decide +kernel,mont_lt _⟩,⟨by decide +kernel,by decide +kernel,by decide +kernel,by decide +kernel,mont_lt _⟩,by decide,by decide⟩
 have k2:Ep 12997850613838968789 14304628359724097447 2950087706404981016 1237622763554136189 0 0 0 0 c2E:=⟨⟨by decide +kernel,by decide +kernel,by decide +kernel,by decide +kernel,mont_lt _⟩,zero_el,by decide,by decide⟩
 have k3:Ep 12298500088583694207 17447120171744064890 14097510924717921191 2278398337453771183 4693446565795584099 18320164443970680666 6792758484113206563 2989688171181581768 c3E:=⟨⟨by decide +kernel,by decide +kernel,by decide +kernel,by decide +kernel,mont_lt _⟩,⟨by decide +kernel,by decide +kernel,by decide +kernel,by decide +kernel,mont_lt _⟩,by decide,by decide⟩
 have k4:Ep 7191623630069643826 8333948550768170742 13001081703983517696 2062355016518372226 11163104453509316115 7271947710149976975 4894807947557820282 3366254582553786647 c4E:=⟨⟨by decide +kernel,by decide +kernel,by decide +kernel,by decide +kernel,mont_lt _⟩,⟨by decide +kernel,by decide +kernel,by decide +kernel,by decide +kernel,mont_lt _⟩,by decide,by decide⟩
 refine eO_q ?_
 intro p0a p0b p0c p0d p0e p0f p0g p0h h0
 refine eQ_q hu ?_
 intro p1a p1b p1c p1d p1e p1f p1g p1h h1
 refine eM_q h1 k1 ?_
 intro p2a p2b p2c p2d p2e p2f p2g p2h h2
 rw[show emul (emul p p) cgE=tE p from rfl]at h2
 refine eA_q h0 h2 ?_
 intro p3a p3b p3c p3d p3e p3f p3g p3h h3
 rw[show eadd oneE (tE p)=moE p from rfl]at h3
 refine eZ_q h0 h2 ?_
 intro p4a p4b p4c p4d p4e p4f p4g p4h h4
 rw[show esub oneE (tE p)=leE p from rfl]at h4
 refine eM_q h4 h3 ?_
 intro p5a p5b p5c p5d p5e p5f p5g p5h h5
 refine eI_q h5 ?_
 intro p6a p6b p6c p6d p6e p6f p6g p6h h6
 rw[show einv (emul (leE p) (moE p))=ivE p from rfl]at h6
 refine eM_q hu h4 ?_
 intro p7a p7b p7c p7d p7e p7f p7g p7h h7
 refine eM_q h7 h6 ?_
 intro p8a p8b p8c p8d p8e p8f p8g p8h h8
 refine eM_q h8 k3 ?_
 intro p9a p9b p9c p9d p9e p9f p9g p9h h9
 rw[show emul (emul (emul p (leE p)) (ivE p)) c3E=stE p from rfl]at h9
 refine eS_q k2 h9 ?_
 intro p10a p10b p10c p10d p10e p10f p10g p10h h10
 rw[show esub c2E (stE p)=x1E p from rfl]at h10
 refine eQ_q h10 ?_
 intro p11a p11b p11c p11d p11e p11f p11g p11h h11
 refine eM_q h11 h10 ?_
 intro p12a p12b p12c p12d p12e p12f p12g p12h h12
 refine eB_q ?_
 intro p13a p13b p13c p13d p13e p13f p13g p13h h13
 refine eA_q h12 h13 ?_
 intro p14a p14b p14c p14d p14e p14f p14g p14h h14
 rw[gE_c]at h14
 refine ⟨h14.pre,?_⟩
 rw[B1_eq,B1_eq,h14.num,lg_sh (enorm_lt _)]
 refine eA_q k2 h9 ?_
 intro p15a p15b p15c p15d p15e p15f p15g p15h h15
 rw[show eadd c2E (stE p)=x2E p from rfl]at h15
 refine eQ_q h15 ?_
 intro p16a p16b p16c p16d p16e p16f p16g p16h h16
 refine eM_q h16 h15 ?_
 intro p17a p17b p17c p17d p17e p17f p17g p17h h17
 refine eB_q ?_
 intro p18a p18b p18c p18d p18e p18f p18g p18h h18
 refine eA_q h17 h18 ?_
 intro p19a p19b p19c p19d p19e p19f p19g p19h h19
 rw[gE_c]at h19
 refine ⟨h19.pre,?_⟩
 rw[B1_eq,B1_eq,h19.num,lg_sh (enorm_lt _)]
 rw[B1_eq,B1_eq]
 refine eQ_q h3 ?_
 intro p20a p20b p20c p20d p20e p20f p20g p20h h20
 refine eM_q h20 h6 ?_
 intro p21a p21b p21c p21d p21e p21f p21g p21h h21
 rw[show emul (emul (moE p) (moE p)) (ivE p)=vvE p from rfl]at h21
 refine eQ_q h21 ?_
 intro p22a p22b p22c p22d p22e p22f p22g p22h h22
 refine eM_q h22 k4 ?_
 intro p23a p23b p23c p23d p23e p23f p23g p23h h23
 refine eA_q h23 kz ?_
 intro p24a p24b p24c p24d p24e p24f p24g p24h h24
 rw[show eadd (emul (emul (vvE p) (vvE p)) c4E) oneE=x3E p from rfl]at h24
 refine eL_q (sel1 _) h10 h24 ?_
 intro p25a p25b p25c p25d p25e p25f p25g p25h h25
 refine eL_q (sel2 _ _) h15 h25 ?_
 intro p26a p26b p26c p26d p26e p26f p26g p26h h26
 rw[seE_x]at h26
 refine eQ_q h26 ?_
 intro p27a p27b p27c p27d p27e p27f p27g p27h h27
 refine eM_q h27 h26 ?_
 intro p28a p28b p28c p28d p28e p28f p28g p28h h28
 refine eB_q ?_
 intro p29a p29b p29c p29d p29e p29f p29g p29h h29
 refine eA_q h28 h29 ?_
 intro p30a p30b p30c p30d p30e p30f p30g p30h h30
 rw[gE_c]at h30
 refine eR_q h30 (sq_mxE p) ?_
 intro p31a p31b p31c p31d p31e p31f p31g p31h h31
 refine ⟨hu.pre.1,?_⟩
 rw[B1_eq,hu.num]
 refine ⟨h31.pre.1,?_⟩
 rw[B1_eq,h31.num]
 rw[B1_eq]
 refine eN_q h31 ?_
 intro p32a p32b p32c p32d p32e p32f p32g p32h h32
 rw[B1_eq,sg_x (esg_lt _) (esg_lt _)]
 refine eL_q (sel01 _) h31 h32 ?_
 intro p33a p33b p33c p33d p33e p33f p33g p33h h33
 rw[seE_y]at h33
 rw[B4_eq,B4_eq,B4_eq,B4_eq]
 obtain ⟨⟨rfl,rfl,rfl,rfl,_⟩,⟨rfl,rfl,rfl,rfl,_⟩,_,_⟩:=h26
 obtain ⟨⟨rfl,rfl,rfl,rfl,_⟩,⟨rfl,rfl,rfl,rfl,_⟩,_,_⟩:=h33
 exact hP
def rMc2:R0:=fun args l=>
 match args,l with
 | [.ptr 1 (.lit 0)],[(1,⟨true,x⟩)]=>r8 x fun x0 x1 x2 x3 x4 x5 x6 x7=>some (some ((W4 x0 x1 x2 x3∧W4 x4 x5 x6 x7)∧V4 x0 x1 x2 x3<21888242871839275222246405745257275088696311157297823662689037894645226208583∧V4 x4 x5 x6 x7<21888242871839275222246405745257275088696311157297823662689037894645226208583),.agg [U (lm (mont (mxE (bE x0 x1 x2 x3 x4 x5 x6 x7)).a) 0),U (lm (mont (mxE (bE x0 x1 x2 x3 x4 x5 x6 x7)).a) 1),U (lm (mont (mxE (bE x0 x1 x2 x3 x4 x5 x6 x7)).a) 2),U (lm (mont (mxE (bE x0 x1 x2 x3 x4 x5 x6 x7)).a) 3),U (lm (mont (mxE (bE x0 x1 x2 x3 x4 x5 x6 x7)).b) 0),U (lm (mont (mxE (bE x0 x1 x2 x3 x4 x5 x6 x7)).b) 1),U (lm (mont (mxE (bE x0 x1 x2 x3 x4 x5 x6 x7)).b) 2),U (lm (mont (mxE (bE x0 x1 x2 x3 x4 x5 x6 x7)).b) 3),U (lm (mont (myE (bE x0 x1 x2 x3 x4 x5 x6 x7)).a) 0),U (lm (mont (myE (bE x0 x1 x2 x3 x4 x5 x6 x7)).a) 1),U (lm (mont (myE (bE x0 x1 x2 x3 x4 x5 x6 x7)).a) 2),U (lm (mont (myE (bE x0 x1 x2 x3 x4 x5 x6 x7)).a) 3),U (lm (mont (myE (bE x0 x1 x2 x3 x4 x5 x6 x7)).b) 0),U (lm (mont (myE (bE x0 x1 x2 x3 x4 x5 x6 x7)).b) 1),U (lm (mont (myE (bE x0 x1 x2 x3 x4 x5 x6 x7)).b) 2),U (lm (mont (myE (bE x0 x1 x2 x3 x4 x5 x6 x7)).b) 3)])
 | _,_=>none
theorem mc2_ok (args:List SV) (l:List (Nat×Reg)) (p:Ob) (v:SV) (h:rMc2 args l=some (p,v)) (hp:p.ok):∃U,execF cxMc2 U Tryz.f17 64 args (memL l) fun v' _=>v'=v:=by
 unfold rMc2 at h
 split at h
 ·obtain ⟨x0,x1,x2,x3,x4,x5,x6,x7,rfl,q⟩:=r8_ex h
  simp only[Option.some.injEq,Prod.mk.injEq]at q
  obtain ⟨rfl,rfl⟩:=q
  obtain ⟨⟨h1,h2⟩,h3,h4⟩:(W4 x0 x1 x2 x3∧W4 x4 x5 x6 x7)∧V4 x0 x1 x2 x3<21888242871839275222246405745257275088696311157297823662689037894645226208583∧V4 x4 x5 x6 x7<21888242871839275222246405745257275088696311157297823662689037894645226208583:=hp
  refine ⟨u9,?_⟩
  rw[vc_mc2]
  exact mc2_walk (bE_ep h1 h2 h3 h4) rfl
 ·cases h
def cMc2:Rd Tryz.prog:=mkR mixed 17 Tryz.func17 (by decide) (by kernel_rfl) [] [.ptr 8 true] rMc2 mc2_ok
def pE (x0 x1 x2 x3 x4 x5 x6 x7:Int):F2:=⟨N4 x0 x1 x2 x3,N4 x4 x5 x6 x7⟩
def agE (p:F2):SV:= .agg [U (lm p.a 0),U (lm p.a 1),U (lm p.a 2),U (lm p.a 3),U (lm p.b 0),U (lm p.b 1),U (lm p.b 2),U (lm p.b 3)]
def agEm (p:F2):SV:= .agg [U (lm (mont p.a) 0),U (lm (mont p.a) 1),U (lm (mont p.a) 2),U (lm (mont p.a) 3),U (lm (mont p.b) 0),U (lm (mont p.b) 1),U (lm (mont p.b) 2),U (lm (mont p.b) 3)]
def agE2 (p q:F2):SV:= .agg [U (lm p.a 0),U (lm p.a 1),U (lm p.a 2),U (lm p.a 3),U (lm p.b 0),U (lm p.b 1),U (lm p.b 2),U (lm p.b 3),U (lm q.a 0),U (lm q.a 1),U (lm q.a 2),U (lm q.a 3),U (lm q.b 0),U (lm q.b 1),U (lm q.b 2),U (lm q.b 3)]
structure Wp (x0 x1 x2 x3 x4 x5 x6 x7:Int) (p:F2):Prop where
 a:Ws x0 x1 x2 x3 p.a
 b:Ws x4 x5 x6 x7 p.b
 la:p.a<qN
 lb:p.b<qN
def Pr (x0 x1 x2 x3 x4 x5 x6 x7:Int):Prop:=(W4 x0 x1 x2 x3∧W4 x4 x5 x6 x7)∧V4 x0 x1 x2 x3<qI∧V4 x4 x5 x6 x7<qI
theorem Wp.ok {x0 x1 x2 x3 x4 x5 x6 x7:Int} {p:F2} (h:Wp x0 x1 x2 x3 x4 x5 x6 x7 p):p.ok:=⟨h.la,h.lb⟩
theorem Wp.pr {x0 x1 x2 x3 x4 x5 x6 x7:Int} {p:F2} (h:Wp x0 x1 x2 x3 x4 x5 x6 x7 p):Pr x0 x1 x2 x3 x4 x5 x6 x7:=⟨⟨h.a.wd,h.b.wd⟩,by rw[h.a.val,qI_eq];have:=h.la;omega,by rw[h.b.val,qI_eq];have:=h.lb;omega⟩
theorem Wp.num {x0 x1 x2 x3 x4 x5 x6 x7:Int} {p:F2} (h:Wp x0 x1 x2 x3 x4 x5 x6 x7 p):pE x0 x1 x2 x3 x4 x5 x6 x7=p:=F2.eq (Vx h.a) (Vx h.b)
theorem Pr.wp {x0 x1 x2 x3 x4 x5 x6 x7:Int} (h:Pr x0 x1 x2 x3 x4 x5 x6 x7):Wp x0 x1 x2 x3 x4 x5 x6 x7 (pE x0 x1 x2 x3 x4 x5 x6 x7):=by
 obtain ⟨⟨h1,h2⟩,h3,h4⟩:=h
 have A:=ws_of h1.1 h1.2.1 h1.2.2.1 h1.2.2.2
 have B:=ws_of h2.1 h2.2.1 h2.2.2.1 h2.2.2.2
 have ea:=A.val
 have eb:=B.val
 rw[qI_eq]at h3 h4
 exact ⟨A,B,show (V4 x0 x1 x2 x3).toNat<qN by omega,show (V4 x4 x5 x6 x7).toNat<qN by omega⟩
theorem wp_lm {p:F2} (h:p.ok):Wp (lm p.a 0) (lm p.a 1) (lm p.a 2) (lm p.a 3) (lm p.b 0) (lm p.b 1) (lm p.b 2) (lm p.b 3) p:=⟨ws_q h.1,ws_q h.2,h.1,h.2⟩
def cxMd2:Cx Tryz.prog:= { rds:= [cMd,cBits],efs:= [],eqs:= [] }
theorem vc_md2 (x0 x1 x2 x3 x4 x5 x6 x7:Int) (P:SV→Prop):(execF cxMd2 u9 Tryz.f15 64 [.agg [.int .u64 (.sym x0),.int .u64 (.sym x1),.int .u64 (.sym x2),.int .u64 (.sym x3),.int .u64 (.sym x4),.int .u64 (.sym x5),.int .u64 (.sym x6),.int .u64 (.sym x7)]] (memL []) fun v _=>P v)=
 (B4 x0 x1 x2 x3 fun a b c d=>(W4 a b c d∧V4 a b c d<qI)∧B4 x4 x5 x6 x7 fun e f g h=>(W4 e f g h∧V4 e f g h<qI)∧L4 (mont (N4 a b c d)) fun i j k l=>L4 (mont (N4 e f g h)) fun m n o p=>P (.tup [.agg [U i,U j,U k,U l,U m,U n,U o,U p],.bool (.lit true)])):=by kernel_rfl
def rMd2:R0:=fun args l=>
 match args,l with
 | [.agg [.int .u64 (.sym x0),.int .u64 (.sym x1),.int .u64 (.sym x2),.int .u64 (.sym x3),.int .u64 (.sym x4),.int .u64 (.sym x5),.int .u64 (.sym x6),.int .u64 (.sym x7)]],[]=>some (some (Pr x0 x1 x2 x3 x4 x5 x6 x7),.tup [agEm (pE x0 x1 x2 x3 x4 x5 x6 x7),.bool (.lit true)])
 | _,_=>none
theorem md2_ok (args:List SV) (l:List (Nat×Reg)) (p:Ob) (v:SV) (h:rMd2 args l=some (p,v)) (hp:p.ok):∃U,execF cxMd2 U Tryz.f15 64 args (memL l) fun v' _=>v'=v:=by
 unfold rMd2 at h
 split at h
 ·rename_i x0 x1 x2 x3 x4 x5 x6 x7
  simp only[Option.some.injEq,Prod.mk.injEq]at h
  obtain ⟨rfl,rfl⟩:=h
  have hp:Pr x0 x1 x2 x3 x4 x5 x6 x7:=hp
  refine ⟨u9,?_⟩
  rw[vc_md2 x0 x1 x2 x3 x4 x5 x6 x7 fun v'=>v'=_,B4_eq]
  refine ⟨⟨hp.1.1,hp.2.1⟩,?_⟩
  rw[B4_eq]
  refine ⟨⟨hp.1.2,hp.2.2⟩,?_⟩
  rw[L4_eq,L4_eq]
  rfl
 ·cases h
def cMd2:Rd Tryz.prog:=mkR mixed 15 Tryz.func15 (by decide) (by kernel_rfl) [] [.num] rMd2 md2_ok
theorem vc_to2 (x0 x1 x2 x3 x4 x5 x6 x7:Int) (P:SV→Prop):(execF cxMd2 u9 Tryz.f29 64 [.agg [.int .u64 (.sym x0),.int .u64 (.sym x1),.int .u64 (.sym x2),.int .u64 (.sym x3),.int .u64 (.sym x4),.int .u64 (.sym x5),.int .u64 (.sym x6),.int .u64 (.sym x7)]] (memL []) fun v _=>P v)=
 (W4 x0 x1 x2 x3∧B4 (bitsV x0 x1 x2 x3 0) (bitsV x0 x1 x2 x3 1) (bitsV x0 x1 x2 x3 2) (bitsV x0 x1 x2 x3 3) fun a b c d=>W4 x4 x5 x6 x7∧B4 (bitsV x4 x5 x6 x7 0) (bitsV x4 x5 x6 x7 1) (bitsV x4 x5 x6 x7 2) (bitsV x4 x5 x6 x7 3) fun e f g h=>P (.agg [U a,U b,U c,U d,U e,U f,U g,U h])):=by kernel_rfl
def rTo2:R0:=fun args l=>
 match args,l with
 | [.agg [.int .u64 (.sym x0),.int .u64 (.sym x1),.int .u64 (.sym x2),.int .u64 (.sym x3),.int .u64 (.sym x4),.int .u64 (.sym x5),.int .u64 (.sym x6),.int .u64 (.sym x7)]],[]=>some (some (W4 x0 x1 x2 x3∧W4 x4 x5 x6 x7),.agg [U (bitsV x0 x1 x2 x3 0),U (bitsV x0 x1 x2 x3 1),U (bitsV x0 x1 x2 x3 2),U (bitsV x0 x1 x2 x3 3),U (bitsV x4 x5 x6 x7 0),U (bitsV x4 x5 x6 x7 1),U (bitsV x4 x5 x6 x7 2),U (bitsV x4 x5 x6 x7 3)])
 | _,_=>none
theorem to2_ok (args:List SV) (l:List (Nat×Reg)) (p:Ob) (v:SV) (h:rTo2 args l=some (p,v)) (hp:p.ok):∃U,execF cxMd2 U Tryz.f29 64 args (memL l) fun v' _=>v'=v:=by
 unfold rTo2 at h
 split at h
 ·rename_i x0 x1 x2 x3 x4 x5 x6 x7
  simp only[Option.some.injEq,Prod.mk.injEq]at h
  obtain ⟨rfl,rfl⟩:=h
  obtain ⟨h1,h2⟩:=(show W4 x0 x1 x2 x3∧W4 x4 x5 x6 x7 from hp)
  refine ⟨u9,?_⟩
  rw[vc_to2 x0 x1 x2 x3 x4 x5 x6 x7 fun v'=>v'=_,B4_eq]
  refine ⟨h1,?_⟩
  rw[B4_eq]
  exact ⟨h2,rfl⟩
 ·cases h
def cTo2:Rd Tryz.prog:=mkR mixed 29 Tryz.func29 (by decide) (by kernel_rfl) [] [.num] rTo2 to2_ok
def cxTp2:Cx Tryz.prog:= { rds:= [cTo2],efs:= [],eqs:= [] }
theorem vc_tp2 (x0 x1 x2 x3 x4 x5 x6 x7 x8 x9 x10 x11 x12 x13 x14 x15:Int) (P:SV→Prop):(execF cxTp2 (fun _=> .un 9) Tryz.f16 64 [.agg [.int .u64 (.sym x0),.int .u64 (.sym x1),.int .u64 (.sym x2),.int .u64 (.sym x3),.int .u64 (.sym x4),.int .u64 (.sym x5),.int .u64 (.sym x6),.int .u64 (.sym x7),.int .u64 (.sym x8),.int .u64 (.sym x9),.int .u64 (.sym x10),.int .u64 (.sym x11),.int .u64 (.sym x12),.int .u64 (.sym x13),.int .u64 (.sym x14),.int .u64 (.sym x15)]] (memL []) fun v _=>P v)=
 (B4 x0 x1 x2 x3 fun a0 a1 a2 a3=>B4 x4 x5 x6 x7 fun a4 a5 a6 a7=>(W4 a0 a1 a2 a3∧W4 a4 a5 a6 a7)∧B4 (bitsV a0 a1 a2 a3 0) (bitsV a0 a1 a2 a3 1) (bitsV a0 a1 a2 a3 2) (bitsV a0 a1 a2 a3 3) fun c0 c1 c2 c3=>B4 (bitsV a4 a5 a6 a7 0) (bitsV a4 a5 a6 a7 1) (bitsV a4 a5 a6 a7 2) (bitsV a4 a5 a6 a7 3) fun c4 c5 c6 c7=>
  B4 x8 x9 x10 x11 fun b0 b1 b2 b3=>B4 x12 x13 x14 x15 fun b4 b5 b6 b7=>(W4 b0 b1 b2 b3∧W4 b4 b5 b6 b7)∧B4 (bitsV b0 b1 b2 b3 0) (bitsV b0 b1 b2 b3 1) (bitsV b0 b1 b2 b3 2) (bitsV b0 b1 b2 b3 3) fun d0 d1 d2 d3=>B4 (bitsV b4 b5 b6 b7 0) (bitsV b4 b5 b6 b7 1) (bitsV b4 b5 b6 b7 2) (bitsV b4 b5 b6 b7 3) fun d4 d5 d6 d7=>P (.agg [U c0,U c1,U c2,U c3,U c4,U c5,U c6,U c7,U d0,U d1,U d2,U d3,U d4,U d5,U d6,U d7])):=by kernel_rfl
def rTp2:R0:=fun args l=>
 match args,l with
 | [.agg [.int .u64 (.sym x0),.int .u64 (.sym x1),.int .u64 (.sym x2),.int .u64 (.sym x3),.int .u64 (.sym x4),.int .u64 (.sym x5),.int .u64 (.sym x6),.int .u64 (.sym x7),.int .u64 (.sym x8),.int .u64 (.sym x9),.int .u64 (.sym x10),.int .u64 (.sym x11),.int .u64 (.sym x12),.int .u64 (.sym x13),.int .u64 (.sym x14),.int .u64 (.sym x15)]],[]=>some (some ((W4 x0 x1 x2 x3∧W4 x4 x5 x6 x7)∧W4 x8 x9 x10 x11∧W4 x12 x13 x14 x15),.agg [U (bitsV x0 x1 x2 x3 0),U (bitsV x0 x1 x2 x3 1),U (bitsV x0 x1 x2 x3 2),U (bitsV x0 x1 x2 x3 3),U (bitsV x4 x5 x6 x7 0),U (bitsV x4 x5 x6 x7 1),U (bitsV x4 x5 x6 x7 2),U (bitsV x4 x5 x6 x7 3),U (bitsV x8 x9 x10 x11 0),U (bitsV x8 x9 x10 x11 1),U (bitsV x8 x9 x10 x11 2),U (bitsV x8 x9 x10 x11 3),U (bitsV x12 x13 x14 x15 0),U (bitsV x12 x13 x14 x15 1),U (bitsV x12 x13 x14 x15 2),U (bitsV x12 x13 x14 x15 3)])
 | _,_=>none
theorem tp2_ok (args:List SV) (l:List (Nat×Reg)) (p:Ob) (v:SV) (h:rTp2 args l=some (p,v)) (hp:p.ok):∃U,execF cxTp2 U Tryz.f16 64 args (memL l) fun v' _=>v'=v:=by
 unfold rTp2 at h
 split at h
 ·rename_i x0 x1 x2 x3 x4 x5 x6 x7 x8 x9 x10 x11 x12 x13 x14 x15
  simp only[Option.some.injEq,Prod.mk.injEq]at h
  obtain ⟨rfl,rfl⟩:=h
  obtain ⟨h1,h2⟩:=(show (W4 x0 x1 x2 x3∧W4 x4 x5 x6 x7)∧W4 x8 x9 x10 x11∧W4 x12 x13 x14 x15 from hp)
  refine ⟨fun _=> .un 9,?_⟩
  rw[vc_tp2 x0 x1 x2 x3 x4 x5 x6 x7 x8 x9 x10 x11 x12 x13 x14 x15 fun v'=>v'=_]
  simp only[↓B4_eq]
  exact ⟨h1,h2,trivial⟩
 ·cases h
def cTp2:Rd Tryz.prog:=mkR mixed 16 Tryz.func16 (by decide) (by kernel_rfl) [] [.num] rTp2 tp2_ok
def cxMg2:Cx Tryz.prog:= { rds:= [cMd2,cMc2,cTp2],efs:= [],eqs:= [] }
def MgT (p:F2) (P:SV→Prop):Prop:=
 ((W4 (lm (mont p.a) 0) (lm (mont p.a) 1) (lm (mont p.a) 2) (lm (mont p.a) 3)∧W4 (lm (mont p.b) 0) (lm (mont p.b) 1) (lm (mont p.b) 2) (lm (mont p.b) 3))∧V4 (lm (mont p.a) 0) (lm (mont p.a) 1) (lm (mont p.a) 2) (lm (mont p.a) 3)<qI∧V4 (lm (mont p.b) 0) (lm (mont p.b) 1) (lm (mont p.b) 2) (lm (mont p.b) 3)<qI)∧L4 (mont (mxE (bE (lm (mont p.a) 0) (lm (mont p.a) 1) (lm (mont p.a) 2) (lm (mont p.a) 3) (lm (mont p.b) 0) (lm (mont p.b) 1) (lm (mont p.b) 2) (lm (mont p.b) 3))).a) fun a0 a1 a2 a3=>L4 (mont (mxE (bE (lm (mont p.a) 0) (lm (mont p.a) 1) (lm (mont p.a) 2) (lm (mont p.a) 3) (lm (mont p.b) 0) (lm (mont p.b) 1) (lm (mont p.b) 2) (lm (mont p.b) 3))).b) fun b0 b1 b2 b3=>L4 (mont (myE (bE (lm (mont p.a) 0) (lm (mont p.a) 1) (lm (mont p.a) 2) (lm (mont p.a) 3) (lm (mont p.b) 0) (lm (mont p.b) 1) (lm (mont p.b) 2) (lm (mont p.b) 3))).a) fun c0 c1 c2 c3=>L4 (mont (myE (bE (lm (mont p.a) 0) (lm (mont p.a) 1) (lm (mont p.a) 2) (lm (mont p.a) 3) (lm (mont p.b) 0) (lm (mont p.b) 1) (lm (mont p.b) 2) (lm (mont p.b) 3))).b) fun d0 d1 d2 d3=>
  ((W4 a0 a1 a2 a3∧W4 b0 b1 b2 b3)∧W4 c0 c1 c2 c3∧W4 d0 d1 d2 d3)∧B4 (bitsV a0 a1 a2 a3 0) (bitsV a0 a1 a2 a3 1) (bitsV a0 a1 a2 a3 2) (bitsV a0 a1 a2 a3 3) fun e0 e1 e2 e3=>B4 (bitsV b0 b1 b2 b3 0) (bitsV b0 b1 b2 b3 1) (bitsV b0 b1 b2 b3 2) (bitsV b0 b1 b2 b3 3) fun e4 e5 e6 e7=>B4 (bitsV c0 c1 c2 c3 0) (bitsV c0 c1 c2 c3 1) (bitsV c0 c1 c2 c3 2) (bitsV c0 c1 c2 c3 3) fun f0 f1 f2 f3=>B4 (bitsV d0 d1 d2 d3 0) (bitsV d0 d1 d2 d3 1) (bitsV d0 d1 d2 d3 2) (bitsV d0 d1 d2 d3 3) fun f4 f5 f6 f7=>P (.tup [.agg [U e0,U e1,U e2,U e3,U e4,U e5,U e6,U e7,U f0,U f1,U f2,U f3,U f4,U f5,U f6,U f7],.bool (.lit true)])
theorem vc_mg2 (x0 x1 x2 x3 x4 x5 x6 x7:Int) (P:SV→Prop):(execF cxMg2 u9 Tryz.f6 64 [.agg [.int .u64 (.sym x0),.int .u64 (.sym x1),.int .u64 (.sym x2),.int .u64 (.sym x3),.int .u64 (.sym x4),.int .u64 (.sym x5),.int .u64 (.sym x6),.int .u64 (.sym x7)]] (memL []) fun v _=>P v)=
 (B4 x0 x1 x2 x3 fun a0 a1 a2 a3=>B4 x4 x5 x6 x7 fun b0 b1 b2 b3=>Pr a0 a1 a2 a3 b0 b1 b2 b3∧MgT (pE a0 a1 a2 a3 b0 b1 b2 b3) P):=by kernel_rfl
theorem bE_m {p:F2} (h:p.ok):bE (lm (mont p.a) 0) (lm (mont p.a) 1) (lm (mont p.a) 2) (lm (mont p.a) 3) (lm (mont p.b) 0) (lm (mont p.b) 1) (lm (mont p.b) 2) (lm (mont p.b) 3)=p:=Ep.num ⟨El.of (mont_lt _),El.of (mont_lt _),h.1,h.2⟩
theorem bits_m {v:Nat} (h:v<qN) (i:Nat):bitsV (lm (mont v) 0) (lm (mont v) 1) (lm (mont v) 2) (lm (mont v) 3) i=lm v i:=by
 unfold bitsV
 rw[show (V4 (lm (mont v) 0) (lm (mont v) 1) (lm (mont v) 2) (lm (mont v) 3)).toNat=_ from Vx (ws_q (mont_lt v)),mont_back,Nat.mod_eq_of_lt h]
theorem mgT_walk {p:F2} {P:SV→Prop} (h:p.ok) (hP:P (.tup [agE2 (mxE p) (myE p),.bool (.lit true)])):MgT p P:=by
 have hx:=mxE_ok p
 have hy:=myE_ok p
 unfold MgT
 refine ⟨⟨⟨lm4_wd _,lm4_wd _⟩,of_eq_true (Vlt (mont_lt _)),of_eq_true (Vlt (mont_lt _))⟩,?_⟩
 simp only[↓L4_eq,↓B4_eq,bE_m h]
 refine ⟨⟨⟨lm4_wd _,lm4_wd _⟩,lm4_wd _,lm4_wd _⟩,?_⟩
 simp only[bits_m hx.1,bits_m hx.2,bits_m hy.1,bits_m hy.2]
 exact hP
def rMg2:R0:=fun args l=>
 match args,l with
 | [.agg [.int .u64 (.sym x0),.int .u64 (.sym x1),.int .u64 (.sym x2),.int .u64 (.sym x3),.int .u64 (.sym x4),.int .u64 (.sym x5),.int .u64 (.sym x6),.int .u64 (.sym x7)]],[]=>some (some (Pr x0 x1 x2 x3 x4 x5 x6 x7),.tup [agE2 (mxE (pE x0 x1 x2 x3 x4 x5 x6 x7)) (myE (pE x0 x1 x2 x3 x4 x5 x6 x7)),.bool (.lit true)])
 | _,_=>none
theorem mg2_ok (args:List SV) (l:List (Nat×Reg)) (p:Ob) (v:SV) (h:rMg2 args l=some (p,v)) (hp:p.ok):∃U,execF cxMg2 U Tryz.f6 64 args (memL l) fun v' _=>v'=v:=by
 unfold rMg2 at h
 split at h
 ·rename_i x0 x1 x2 x3 x4 x5 x6 x7
  simp only[Option.some.injEq,Prod.mk.injEq]at h
  obtain ⟨rfl,rfl⟩:=h
  have hp:Pr x0 x1 x2 x3 x4 x5 x6 x7:=hp
  refine ⟨u9,?_⟩
  rw[vc_mg2 x0 x1 x2 x3 x4 x5 x6 x7 fun v'=>v'=_,B4_eq,B4_eq]
  exact ⟨hp,mgT_walk hp.wp.ok rfl⟩
 ·cases h
def cMg2:Rd Tryz.prog:=mkR mixed 6 Tryz.func6 (by decide) (by kernel_rfl) [] [.num] rMg2 mg2_ok
def cxEE:Cx Tryz.prog:= { rds:= [cPP,cMl,cSb,cAd,cIm,cLs],efs:= [],eqs:= [eq23] }
theorem vc_mle2 (v0 v1 v2 v3 v4 v5 v6 v7 w0 w1 w2 w3 w4 w5 w6 w7:Int) (P:SV→Prop):(execF cxEE u9 Tryz.f18 64 [.agg [.int .u64 (.sym v0),.int .u64
 (.sym v1),.int .u64 (.sym v2),.int .u64 (.sym v3),.int .u64 (.sym v4),.int .u64 (.sym v5),.int .u64 (.sym v6),.int .u64 (.sym v7)],.agg [.int .u64
 (.sym w0),.int .u64 (.sym w1),.int .u64 (.sym w2),.int .u64 (.sym w3),.int .u64 (.sym w4),.int .u64 (.sym w5),.int .u64 (.sym w6),.int .u64 (.sym w7)]]
 (memL []) fun v _=>P v)=(B4 v0 v1 v2 v3 fun x0 x1 x2 x3=>B4 w0 w1 w2 w3 fun x4 x5 x6 x7=>(((W4 x0 x1 x2 x3)∧(W4 x4 x5 x6 x7))∧(L4 (((N4 x0 x1 x2 x3)*
 (N4 x4 x5 x6 x7))%qN) fun x8 x9 x10 x11=>B4 v4 v5 v6 v7 fun x12 x13 x14 x15=>B4 w4 w5 w6 w7 fun x16 x17 x18 x19=>(((W4 x12 x13 x14 x15)∧(W4 x16 x17 x18 x19))
 ∧(L4 (((N4 x12 x13 x14 x15)*(N4 x16 x17 x18 x19))%qN) fun x20 x21 x22 x23=>((((W4 x8 x9 x10 x11)∧(W4 x20 x21 x22 x23))∧(((V4 x8 x9 x10 x11)<qI)
 ∧((V4 x20 x21 x22 x23)<qI)))∧(L4 (((N4 x8 x9 x10 x11)+(qN-(N4 x20 x21 x22 x23)))%qN) fun x24 x25 x26 x27=>B4 v0 v1 v2 v3 fun x28 x29 x30 x31=>B4 w4 w5 w6 w7 fun x32 x33 x34 x35=>
 (((W4 x28 x29 x30 x31)∧(W4 x32 x33 x34 x35))∧(L4 (((N4 x28 x29 x30 x31)*(N4 x32 x33 x34 x35))%qN) fun x36 x37 x38 x39=>B4 v4 v5 v6 v7 fun x40 x41 x42 x43=>B4 w0 w1 w2 w3 fun x44 x45 x46 x47=>
 (((W4 x40 x41 x42 x43)∧(W4 x44 x45 x46 x47))∧(L4 (((N4 x40 x41 x42 x43)*(N4 x44 x45 x46 x47))%qN) fun x48 x49 x50 x51=>((((W4 x36 x37 x38 x39)
 ∧(W4 x48 x49 x50 x51))∧(((V4 x36 x37 x38 x39)<qI)∧((V4 x48 x49 x50 x51)<qI)))∧(L4 (A4 x36 x37 x38 x39 x48 x49 x50 x51) fun x52 x53 x54 x55=>
 (P (SV.agg [(U x24),(U x25),(U x26),(U x27),(U x52),(U x53),(U x54),(U x55)]))))))))))))))):=by kernel_rfl
theorem mle2_walk {v0 v1 v2 v3 v4 v5 v6 v7 w0 w1 w2 w3 w4 w5 w6 w7:Int} {p q:F2} {P:SV→Prop} (hp:Wp v0 v1 v2 v3 v4 v5 v6 v7 p) (hq:Wp w0 w1 w2 w3 w4 w5 w6 w7 q) (hP:P (agE (emul p q))):
  execF cxEE u9 Tryz.f18 64 [.agg [.int .u64 (.sym v0),.int .u64 (.sym v1),.int .u64 (.sym v2),.int .u64 (.sym v3),.int .u64 (.sym v4),.int .u64 (.sym v5),.int .u64 (.sym v6),.int .u64 (.sym v7)],.agg [.int .u64 (.sym w0),.int .u64 (.sym w1),.int .u64 (.sym w2),.int .u64 (.sym w3),.int .u64 (.sym w4),.int .u64 (.sym w5),.int .u64 (.sym w6),.int .u64 (.sym w7)]] (memL []) fun v _=>P v:=by
 rw[vc_mle2]
 have wa:W4 v0 v1 v2 v3=True:=eq_true hp.a.wd
 have wb:W4 v4 v5 v6 v7=True:=eq_true hp.b.wd
 have na:N4 v0 v1 v2 v3=p.a:=Vx hp.a
 have nb:N4 v4 v5 v6 v7=p.b:=Vx hp.b
 have va:(V4 v0 v1 v2 v3<qI)=True:=eq_true hp.pr.2.1
 have vb:(V4 v4 v5 v6 v7<qI)=True:=eq_true hp.pr.2.2
 have wc:W4 w0 w1 w2 w3=True:=eq_true hq.a.wd
 have wd:W4 w4 w5 w6 w7=True:=eq_true hq.b.wd
 have nc:N4 w0 w1 w2 w3=q.a:=Vx hq.a
 have nd:N4 w4 w5 w6 w7=q.b:=Vx hq.b
 have vc:(V4 w0 w1 w2 w3<qI)=True:=eq_true hq.pr.2.1
 have vd:(V4 w4 w5 w6 w7<qI)=True:=eq_true hq.pr.2.2
 simp only[wa,wb,na,nb,wc,wd,nc,nd,A4_eq,↓L4_eq,↓B4_eq,N4q,W4l,Vq_lt,true_and,and_self]
 exact hP
def rMle2:R0:=fun args l=>
 match args,l with
 | [.agg [.int .u64 (.sym v0),.int .u64 (.sym v1),.int .u64 (.sym v2),.int .u64 (.sym v3),.int .u64 (.sym v4),.int .u64 (.sym v5),.int .u64 (.sym v6),.int .u64 (.sym v7)],.agg [.int .u64 (.sym w0),.int .u64 (.sym w1),.int .u64 (.sym w2),.int .u64 (.sym w3),.int .u64 (.sym w4),.int .u64 (.sym w5),.int .u64 (.sym w6),.int .u64 (.sym w7)]],[]=>some (some (Pr v0 v1 v2 v3 v4 v5 v6 v7∧Pr w0 w1 w2 w3 w4 w5 w6 w7),agE (emul (pE v0 v1 v2 v3 v4 v5 v6 v7) (pE w0 w1 w2 w3 w4 w5 w6 w7)))
 | _,_=>none
theorem mle2_ok (args:List SV) (l:List (Nat×Reg)) (p:Ob) (v:SV) (h:rMle2 args l=some (p,v)) (hp:p.ok):∃U,execF cxEE U Tryz.f18 64 args (memL l) fun v' _=>v'=v:=by
 unfold rMle2 at h
 split at h
 ·rename_i v0 v1 v2 v3 v4 v5 v6 v7 w0 w1 w2 w3 w4 w5 w6 w7
  simp only[Option.some.injEq,Prod.mk.injEq]at h
  obtain ⟨rfl,rfl⟩:=h
  obtain ⟨h1,h2⟩:=(show Pr v0 v1 v2 v3 v4 v5 v6 v7∧Pr w0 w1 w2 w3 w4 w5 w6 w7 from hp)
  exact ⟨u9,mle2_walk h1.wp h2.wp rfl⟩
 ·cases h
def cMle2:Rd Tryz.prog:=mkR mixed 18 Tryz.func18 (by decide) (by kernel_rfl) [] [.num,.num] rMle2 mle2_ok
theorem vc_ade2 (v0 v1 v2 v3 v4 v5 v6 v7 w0 w1 w2 w3 w4 w5 w6 w7:Int) (P:SV→Prop):(execF cxEE u9 Tryz.f19 64 [.agg [.int .u64 (.sym v0),.int .u64
 (.sym v1),.int .u64 (.sym v2),.int .u64 (.sym v3),.int .u64 (.sym v4),.int .u64 (.sym v5),.int .u64 (.sym v6),.int .u64 (.sym v7)],.agg [.int .u64
 (.sym w0),.int .u64 (.sym w1),.int .u64 (.sym w2),.int .u64 (.sym w3),.int .u64 (.sym w4),.int .u64 (.sym w5),.int .u64 (.sym w6),.int .u64 (.sym w7)]]
 (memL []) fun v _=>P v)=(B4 v0 v1 v2 v3 fun x0 x1 x2 x3=>B4 w0 w1 w2 w3 fun x4 x5 x6 x7=>((((W4 x0 x1 x2 x3)∧(W4 x4 x5 x6 x7))∧(((V4 x0 x1 x2 x3)<qI)
 ∧((V4 x4 x5 x6 x7)<qI)))∧(L4 (A4 x0 x1 x2 x3 x4 x5 x6 x7) fun x8 x9 x10 x11=>B4 v4 v5 v6 v7 fun x12 x13 x14 x15=>B4 w4 w5 w6 w7 fun x16 x17 x18 x19=>
 ((((W4 x12 x13 x14 x15)∧(W4 x16 x17 x18 x19))∧(((V4 x12 x13 x14 x15)<qI)∧((V4 x16 x17 x18 x19)<qI)))∧(L4 (A4 x12 x13 x14 x15 x16 x17 x18 x19) fun x20 x21 x22 x23=>
 (P (SV.agg [(U x8),(U x9),(U x10),(U x11),(U x20),(U x21),(U x22),(U x23)]))))))):=by kernel_rfl
theorem ade2_walk {v0 v1 v2 v3 v4 v5 v6 v7 w0 w1 w2 w3 w4 w5 w6 w7:Int} {p q:F2} {P:SV→Prop} (hp:Wp v0 v1 v2 v3 v4 v5 v6 v7 p) (hq:Wp w0 w1 w2 w3 w4 w5 w6 w7 q) (hP:P (agE (eadd p q))):
  execF cxEE u9 Tryz.f19 64 [.agg [.int .u64 (.sym v0),.int .u64 (.sym v1),.int .u64 (.sym v2),.int .u64 (.sym v3),.int .u64 (.sym v4),.int .u64 (.sym v5),.int .u64 (.sym v6),.int .u64 (.sym v7)],.agg [.int .u64 (.sym w0),.int .u64 (.sym w1),.int .u64 (.sym w2),.int .u64 (.sym w3),.int .u64 (.sym w4),.int .u64 (.sym w5),.int .u64 (.sym w6),.int .u64 (.sym w7)]] (memL []) fun v _=>P v:=by
 rw[vc_ade2]
 have wa:W4 v0 v1 v2 v3=True:=eq_true hp.a.wd
 have wb:W4 v4 v5 v6 v7=True:=eq_true hp.b.wd
 have na:N4 v0 v1 v2 v3=p.a:=Vx hp.a
 have nb:N4 v4 v5 v6 v7=p.b:=Vx hp.b
 have va:(V4 v0 v1 v2 v3<qI)=True:=eq_true hp.pr.2.1
 have vb:(V4 v4 v5 v6 v7<qI)=True:=eq_true hp.pr.2.2
 have wc:W4 w0 w1 w2 w3=True:=eq_true hq.a.wd
 have wd:W4 w4 w5 w6 w7=True:=eq_true hq.b.wd
 have nc:N4 w0 w1 w2 w3=q.a:=Vx hq.a
 have nd:N4 w4 w5 w6 w7=q.b:=Vx hq.b
 have vc:(V4 w0 w1 w2 w3<qI)=True:=eq_true hq.pr.2.1
 have vd:(V4 w4 w5 w6 w7<qI)=True:=eq_true hq.pr.2.2
 simp only[wa,wb,na,nb,va,vb,wc,wd,nc,nd,vc,vd,A4_eq,↓L4_eq,↓B4_eq,true_and,and_self]
 exact hP
def rAde2:R0:=fun args l=>
 match args,l with
 | [.agg [.int .u64 (.sym v0),.int .u64 (.sym v1),.int .u64 (.sym v2),.int .u64 (.sym v3),.int .u64 (.sym v4),.int .u64 (.sym v5),.int .u64 (.sym v6),.int .u64 (.sym v7)],.agg [.int .u64 (.sym w0),.int .u64 (.sym w1),.int .u64 (.sym w2),.int .u64 (.sym w3),.int .u64 (.sym w4),.int .u64 (.sym w5),.int .u64 (.sym w6),.int .u64 (.sym w7)]],[]=>some (some (Pr v0 v1 v2 v3 v4 v5 v6 v7∧Pr w0 w1 w2 w3 w4 w5 w6 w7),agE (eadd (pE v0 v1 v2 v3 v4 v5 v6 v7) (pE w0 w1 w2 w3 w4 w5 w6 w7)))
 | _,_=>none
theorem ade2_ok (args:List SV) (l:List (Nat×Reg)) (p:Ob) (v:SV) (h:rAde2 args l=some (p,v)) (hp:p.ok):∃U,execF cxEE U Tryz.f19 64 args (memL l) fun v' _=>v'=v:=by
 unfold rAde2 at h
 split at h
 ·rename_i v0 v1 v2 v3 v4 v5 v6 v7 w0 w1 w2 w3 w4 w5 w6 w7
  simp only[Option.some.injEq,Prod.mk.injEq]at h
  obtain ⟨rfl,rfl⟩:=h
  obtain ⟨h1,h2⟩:=(show Pr v0 v1 v2 v3 v4 v5 v6 v7∧Pr w0 w1 w2 w3 w4 w5 w6 w7 from hp)
  exact ⟨u9,ade2_walk h1.wp h2.wp rfl⟩
 ·cases h
def cAde2:Rd Tryz.prog:=mkR mixed 19 Tryz.func19 (by decide) (by kernel_rfl) [] [.num,.num] rAde2 ade2_ok
theorem vc_sbe2 (v0 v1 v2 v3 v4 v5 v6 v7 w0 w1 w2 w3 w4 w5 w6 w7:Int) (P:SV→Prop):(execF cxEE u9 Tryz.f50 64 [.agg [.int .u64 (.sym v0),.int .u64
 (.sym v1),.int .u64 (.sym v2),.int .u64 (.sym v3),.int .u64 (.sym v4),.int .u64 (.sym v5),.int .u64 (.sym v6),.int .u64 (.sym v7)],.agg [.int .u64
 (.sym w0),.int .u64 (.sym w1),.int .u64 (.sym w2),.int .u64 (.sym w3),.int .u64 (.sym w4),.int .u64 (.sym w5),.int .u64 (.sym w6),.int .u64 (.sym w7)]]
 (memL []) fun v _=>P v)=(B4 v0 v1 v2 v3 fun x0 x1 x2 x3=>B4 w0 w1 w2 w3 fun x4 x5 x6 x7=>((((W4 x0 x1 x2 x3)∧(W4 x4 x5 x6 x7))∧(((V4 x0 x1 x2 x3)<qI)
 ∧((V4 x4 x5 x6 x7)<qI)))∧(L4 (((N4 x0 x1 x2 x3)+(qN-(N4 x4 x5 x6 x7)))%qN) fun x8 x9 x10 x11=>B4 v4 v5 v6 v7 fun x12 x13 x14 x15=>B4 w4 w5 w6 w7 fun x16 x17 x18 x19=>
 ((((W4 x12 x13 x14 x15)∧(W4 x16 x17 x18 x19))∧(((V4 x12 x13 x14 x15)<qI)∧((V4 x16 x17 x18 x19)<qI)))∧(L4 (((N4 x12 x13 x14 x15)+(qN-(N4 x16 x17 x18 x19)))%qN) fun x20 x21 x22 x23=>
 (P (SV.agg [(U x8),(U x9),(U x10),(U x11),(U x20),(U x21),(U x22),(U x23)]))))))):=by kernel_rfl
theorem sbe2_walk {v0 v1 v2 v3 v4 v5 v6 v7 w0 w1 w2 w3 w4 w5 w6 w7:Int} {p q:F2} {P:SV→Prop} (hp:Wp v0 v1 v2 v3 v4 v5 v6 v7 p) (hq:Wp w0 w1 w2 w3 w4 w5 w6 w7 q) (hP:P (agE (esub p q))):
  execF cxEE u9 Tryz.f50 64 [.agg [.int .u64 (.sym v0),.int .u64 (.sym v1),.int .u64 (.sym v2),.int .u64 (.sym v3),.int .u64 (.sym v4),.int .u64 (.sym v5),.int .u64 (.sym v6),.int .u64 (.sym v7)],.agg [.int .u64 (.sym w0),.int .u64 (.sym w1),.int .u64 (.sym w2),.int .u64 (.sym w3),.int .u64 (.sym w4),.int .u64 (.sym w5),.int .u64 (.sym w6),.int .u64 (.sym w7)]] (memL []) fun v _=>P v:=by
 rw[vc_sbe2]
 have wa:W4 v0 v1 v2 v3=True:=eq_true hp.a.wd
 have wb:W4 v4 v5 v6 v7=True:=eq_true hp.b.wd
 have na:N4 v0 v1 v2 v3=p.a:=Vx hp.a
 have nb:N4 v4 v5 v6 v7=p.b:=Vx hp.b
 have va:(V4 v0 v1 v2 v3<qI)=True:=eq_true hp.pr.2.1
 have vb:(V4 v4 v5 v6 v7<qI)=True:=eq_true hp.pr.2.2
 have wc:W4 w0 w1 w2 w3=True:=eq_true hq.a.wd
 have wd:W4 w4 w5 w6 w7=True:=eq_true hq.b.wd
 have nc:N4 w0 w1 w2 w3=q.a:=Vx hq.a
 have nd:N4 w4 w5 w6 w7=q.b:=Vx hq.b
 have vc:(V4 w0 w1 w2 w3<qI)=True:=eq_true hq.pr.2.1
 have vd:(V4 w4 w5 w6 w7<qI)=True:=eq_true hq.pr.2.2
 simp only[wa,wb,na,nb,va,vb,wc,wd,nc,nd,vc,vd,↓L4_eq,↓B4_eq,true_and,and_self]
 exact hP
def rSbe2:R0:=fun args l=>
 match args,l with
 | [.agg [.int .u64 (.sym v0),.int .u64 (.sym v1),.int .u64 (.sym v2),.int .u64 (.sym v3),.int .u64 (.sym v4),.int .u64 (.sym v5),.int .u64 (.sym v6),.int .u64 (.sym v7)],.agg [.int .u64 (.sym w0),.int .u64 (.sym w1),.int .u64 (.sym w2),.int .u64 (.sym w3),.int .u64 (.sym w4),.int .u64 (.sym w5),.int .u64 (.sym w6),.int .u64 (.sym w7)]],[]=>some (some (Pr v0 v1 v2 v3 v4 v5 v6 v7∧Pr w0 w1 w2 w3 w4 w5 w6 w7),agE (esub (pE v0 v1 v2 v3 v4 v5 v6 v7) (pE w0 w1 w2 w3 w4 w5 w6 w7)))
 | _,_=>none
theorem sbe2_ok (args:List SV) (l:List (Nat×Reg)) (p:Ob) (v:SV) (h:rSbe2 args l=some (p,v)) (hp:p.ok):∃U,execF cxEE U Tryz.f50 64 args (memL l) fun v' _=>v'=v:=by
 unfold rSbe2 at h
 split at h
 ·rename_i v0 v1 v2 v3 v4 v5 v6 v7 w0 w1 w2 w3 w4 w5 w6 w7
  simp only[Option.some.injEq,Prod.mk.injEq]at h
  obtain ⟨rfl,rfl⟩:=h
  obtain ⟨h1,h2⟩:=(show Pr v0 v1 v2 v3 v4 v5 v6 v7∧Pr w0 w1 w2 w3 w4 w5 w6 w7 from hp)
  exact ⟨u9,sbe2_walk h1.wp h2.wp rfl⟩
 ·cases h
def cSbe2:Rd Tryz.prog:=mkR mixed 50 Tryz.func50 (by decide) (by kernel_rfl) [] [.num,.num] rSbe2 sbe2_ok
theorem vc_ine2 (v0 v1 v2 v3 v4 v5 v6 v7:Int) (P:SV→Prop):(execF cxEE u9 Tryz.f46 64 [.agg [.int .u64 (.sym v0),.int .u64 (.sym v1),.int .u64
 (.sym v2),.int .u64 (.sym v3),.int .u64 (.sym v4),.int .u64 (.sym v5),.int .u64 (.sym v6),.int .u64 (.sym v7)]] (memL []) fun v _=>P v)=(B4 v0 v1 v2 v3 fun x0 x1 x2 x3=>B4 v0 v1 v2 v3 fun x4 x5 x6 x7=>
 (((W4 x0 x1 x2 x3)∧(W4 x4 x5 x6 x7))∧(L4 (((N4 x0 x1 x2 x3)*(N4 x4 x5 x6 x7))%qN) fun x8 x9 x10 x11=>B4 v4 v5 v6 v7 fun x12 x13 x14 x15=>B4 v4 v5 v6 v7 fun x16 x17 x18 x19=>
 (((W4 x12 x13 x14 x15)∧(W4 x16 x17 x18 x19))∧(L4 (((N4 x12 x13 x14 x15)*(N4 x16 x17 x18 x19))%qN) fun x20 x21 x22 x23=>((((W4 x8 x9 x10 x11)
 ∧(W4 x20 x21 x22 x23))∧(((V4 x8 x9 x10 x11)<qI)∧((V4 x20 x21 x22 x23)<qI)))∧(L4 (A4 x8 x9 x10 x11 x20 x21 x22 x23) fun x24 x25 x26 x27=>((((W4 x24 x25 x26 x27)
 ∧(W4 4332616871279656263 10917124144477883021 13281191951274694749 3486998266802970665))∧(((V4 x24 x25 x26 x27)<qI)∧(qI=qI)))∧(L4 (inv0 (N4 x24 x25 x26 x27)) fun x28 x29 x30 x31=>B4 v0 v1 v2 v3 fun x32 x33 x34 x35=>B4 x28 x29 x30 x31 fun x36 x37 x38 x39=>
 (((W4 x32 x33 x34 x35)∧(W4 x36 x37 x38 x39))∧(L4 (((N4 x32 x33 x34 x35)*(N4 x36 x37 x38 x39))%qN) fun x40 x41 x42 x43=>B4 v4 v5 v6 v7 fun x44 x45 x46 x47=>B4 x28 x29 x30 x31 fun x48 x49 x50 x51=>
 (((W4 x44 x45 x46 x47)∧(W4 x48 x49 x50 x51))∧(L4 (((N4 x44 x45 x46 x47)*(N4 x48 x49 x50 x51))%qN) fun x52 x53 x54 x55=>((((W4 0 0 0 0)∧(W4 x52 x53 x54 x55))
 ∧(((0:Int)<qI)∧((V4 x52 x53 x54 x55)<qI)))∧(L4 ((0+(qN-(N4 x52 x53 x54 x55)))%qN) fun x56 x57 x58 x59=>(P (SV.agg [(U x40),(U x41),
 (U x42),(U x43),(U x56),(U x57),(U x58),(U x59)]))))))))))))))))):=by kernel_rfl
theorem ine2_walk {v0 v1 v2 v3 v4 v5 v6 v7:Int} {p:F2} {P:SV→Prop} (hp:Wp v0 v1 v2 v3 v4 v5 v6 v7 p) (hP:P (agE (einv p))):
  execF cxEE u9 Tryz.f46 64 [.agg [.int .u64 (.sym v0),.int .u64 (.sym v1),.int .u64 (.sym v2),.int .u64 (.sym v3),.int .u64 (.sym v4),.int .u64 (.sym v5),.int .u64 (.sym v6),.int .u64 (.sym v7)]] (memL []) fun v _=>P v:=by
 rw[vc_ine2]
 have wa:W4 v0 v1 v2 v3=True:=eq_true hp.a.wd
 have wb:W4 v4 v5 v6 v7=True:=eq_true hp.b.wd
 have na:N4 v0 v1 v2 v3=p.a:=Vx hp.a
 have nb:N4 v4 v5 v6 v7=p.b:=Vx hp.b
 have va:(V4 v0 v1 v2 v3<qI)=True:=eq_true hp.pr.2.1
 have vb:(V4 v4 v5 v6 v7<qI)=True:=eq_true hp.pr.2.2
 have wq:W4 4332616871279656263 10917124144477883021 13281191951274694749 3486998266802970665=True:=eq_true q_ws.wd
 simp only[wa,wb,na,nb,wq,A4_eq,↓L4_eq,↓B4_eq,N4q,N4i,W4l,W4_0,Vq_lt,z_lt,true_and,and_self]
 exact hP
def rIne2:R0:=fun args l=>
 match args,l with
 | [.agg [.int .u64 (.sym v0),.int .u64 (.sym v1),.int .u64 (.sym v2),.int .u64 (.sym v3),.int .u64 (.sym v4),.int .u64 (.sym v5),.int .u64 (.sym v6),.int .u64 (.sym v7)]],[]=>some (some (Pr v0 v1 v2 v3 v4 v5 v6 v7),agE (einv (pE v0 v1 v2 v3 v4 v5 v6 v7)))
 | _,_=>none
theorem ine2_ok (args:List SV) (l:List (Nat×Reg)) (p:Ob) (v:SV) (h:rIne2 args l=some (p,v)) (hp:p.ok):∃U,execF cxEE U Tryz.f46 64 args (memL l) fun v' _=>v'=v:=by
 unfold rIne2 at h
 split at h
 ·rename_i v0 v1 v2 v3 v4 v5 v6 v7
  simp only[Option.some.injEq,Prod.mk.injEq]at h
  obtain ⟨rfl,rfl⟩:=h
  have h1:Pr v0 v1 v2 v3 v4 v5 v6 v7:=hp
  exact ⟨u9,ine2_walk h1.wp rfl⟩
 ·cases h
def cIne2:Rd Tryz.prog:=mkR mixed 46 Tryz.func46 (by decide) (by kernel_rfl) [] [.num] rIne2 ine2_ok
theorem vc_sge2 (v0 v1 v2 v3 v4 v5 v6 v7:Int) (P:SV→Prop):(execF cxEE u9 Tryz.f51 64 [.agg [.int .u64 (.sym v0),.int .u64 (.sym v1),.int .u64
 (.sym v2),.int .u64 (.sym v3),.int .u64 (.sym v4),.int .u64 (.sym v5),.int .u64 (.sym v6),.int .u64 (.sym v7)]] (memL []) fun v _=>P v)=(B4 v0 v1 v2 v3 fun x0 x1 x2 x3=>
 ((((decide ([x0,x1,x2,x3]= [0,0,0,0]))=Bool.true)→(B1 (Int.tmod v4 2) fun x4=>(P (U x4))))∧(((decide ([x0,x1,x2,x3]= [0,0,0,0]))=Bool.false)
 →(B1 (Int.tmod v0 2) fun x5=>(P (U x5)))))):=by kernel_rfl
theorem vc_lwe2 (v0 v1 v2 v3 v4 v5 v6 v7:Int) (P:SV→Prop):(execF cxEE u9 Tryz.f5 64 [.agg [.int .u64 (.sym v0),.int .u64 (.sym v1),.int .u64
 (.sym v2),.int .u64 (.sym v3),.int .u64 (.sym v4),.int .u64 (.sym v5),.int .u64 (.sym v6),.int .u64 (.sym v7)]] (memL []) fun v _=>P v)=(B4 v0 v1 v2 v3 fun x0 x1 x2 x3=>
 (((W4 x0 x1 x2 x3)∧(W4 4332616871279656263 10917124144477883021 13281191951274694749 3486998266802970665))∧((((decide ((V4 x0 x1 x2 x3)<qI))=Bool.true)
 →(B4 v4 v5 v6 v7 fun x4 x5 x6 x7=>(((W4 x4 x5 x6 x7)∧(W4 4332616871279656263 10917124144477883021 13281191951274694749 3486998266802970665))∧(P
 (SV.bool (B.sym (decide ((V4 x4 x5 x6 x7)<qI))))))))∧(((decide ((V4 x0 x1 x2 x3)<qI))=Bool.false)→(P (SV.bool (B.lit Bool.false))))))):=by kernel_rfl
theorem vc_sm2 (n:Int) (P:SV→Prop):(execF cxEE u9 Tryz.f96 64 [.int .i64 (.sym n)] (memL []) fun v _=>P v)=(B1 (IntKind.wrap IntKind.u64 n) fun x0=>
 (P (SV.agg [(U x0),(SV.int IntKind.u64 (A.lit 0)),(SV.int IntKind.u64 (A.lit 0)),(SV.int IntKind.u64 (A.lit 0))]))):=by kernel_rfl
theorem z4_iff {a b c d:Int} {x:Nat} (h:Ws a b c d x): [a,b,c,d]= [0,0,0,0]↔x=0:=by
 have w:=h.wd
 have z:=V4_zero w.1 w.2.1 w.2.2.1 w.2.2.2
 rw[h.val]at z
 simp only[List.cons.injEq,and_true]
 rw[←z]
 omega
def rSge2:R0:=fun args l=>
 match args,l with
 | [.agg [.int .u64 (.sym v0),.int .u64 (.sym v1),.int .u64 (.sym v2),.int .u64 (.sym v3),.int .u64 (.sym v4),.int .u64 (.sym v5),.int .u64 (.sym v6),.int .u64 (.sym v7)]],[]=>some (some (W4 v0 v1 v2 v3∧W4 v4 v5 v6 v7),.int .u64 (.sym ((esg (pE v0 v1 v2 v3 v4 v5 v6 v7):Nat):Int)))
 | _,_=>none
theorem sge2_ok (args:List SV) (l:List (Nat×Reg)) (p:Ob) (v:SV) (h:rSge2 args l=some (p,v)) (hp:p.ok):∃U,execF cxEE U Tryz.f51 64 args (memL l) fun v' _=>v'=v:=by
 unfold rSge2 at h
 split at h
 ·rename_i v0 v1 v2 v3 v4 v5 v6 v7
  simp only[Option.some.injEq,Prod.mk.injEq]at h
  obtain ⟨rfl,rfl⟩:=h
  obtain ⟨h1,h2⟩:=(show W4 v0 v1 v2 v3∧W4 v4 v5 v6 v7 from hp)
  have A:=ws_of h1.1 h1.2.1 h1.2.2.1 h1.2.2.2
  have B:=ws_of h2.1 h2.2.1 h2.2.2.1 h2.2.2.2
  refine ⟨u9,?_⟩
  rw[vc_sge2 v0 v1 v2 v3 v4 v5 v6 v7 fun v'=>v'=_,B4_eq,B1_eq,B1_eq,par A,par B]
  have eb:esg (pE v0 v1 v2 v3 v4 v5 v6 v7)=if (V4 v0 v1 v2 v3).toNat=0 then (V4 v4 v5 v6 v7).toNat%2 else (V4 v0 v1 v2 v3).toNat%2:=rfl
  rw[eb]
  simp only[decide_eq_true_eq,decide_eq_false_iff_not,z4_iff A]
  refine ⟨fun h=> ?_,fun h=> ?_⟩
  ·rw[if_pos h]
   rfl
  ·rw[if_neg h]
   rfl
 ·cases h
def cSge2:Rd Tryz.prog:=mkR mixed 51 Tryz.func51 (by decide) (by kernel_rfl) [] [.num] rSge2 sge2_ok
def rLwe2:R0:=fun args l=>
 match args,l with
 | [.agg [.int .u64 (.sym v0),.int .u64 (.sym v1),.int .u64 (.sym v2),.int .u64 (.sym v3),.int .u64 (.sym v4),.int .u64 (.sym v5),.int .u64 (.sym v6),.int .u64 (.sym v7)]],[]=>some (some (W4 v0 v1 v2 v3∧W4 v4 v5 v6 v7),.bool (.sym (decide (V4 v0 v1 v2 v3<qI∧V4 v4 v5 v6 v7<qI))))
 | _,_=>none
theorem lwe2_ok (args:List SV) (l:List (Nat×Reg)) (p:Ob) (v:SV) (h:rLwe2 args l=some (p,v)) (hp:p.ok):∃U,execF cxEE U Tryz.f5 64 args (memL l) fun v' _=>∀β u,Den β v' u→Den β v u:=by
 unfold rLwe2 at h
 split at h
 ·rename_i v0 v1 v2 v3 v4 v5 v6 v7
  simp only[Option.some.injEq,Prod.mk.injEq]at h
  obtain ⟨rfl,rfl⟩:=h
  obtain ⟨h1,h2⟩:=(show W4 v0 v1 v2 v3∧W4 v4 v5 v6 v7 from hp)
  refine ⟨u9,?_⟩
  rw[vc_lwe2 v0 v1 v2 v3 v4 v5 v6 v7 fun v'=>∀β u,Den β v' u→Den β (.bool (.sym (decide (V4 v0 v1 v2 v3<qI∧V4 v4 v5 v6 v7<qI)))) u,B4_eq,B4_eq]
  refine ⟨⟨h1,q_ws.wd⟩,fun h=>⟨⟨h2,q_ws.wd⟩,den_bool ?_⟩,fun h=>den_bool ?_⟩
  ·have h:V4 v0 v1 v2 v3<qI:=by simpa using h
   show decide _=decide _
   simp[h]
  ·have h:¬V4 v0 v1 v2 v3<qI:=by simpa using h
   show false=decide _
   simp[h]
 ·cases h
def cLwe2:Rd Tryz.prog:=mkQ mixed 5 Tryz.func5 (by decide) (by kernel_rfl) [] [.num] rLwe2 lwe2_ok
theorem lm_small {n:Int} (h:0≤n∧n<18446744073709551616):IntKind.u64.wrap n=lm n.toNat 0∧lm n.toNat 1=0∧lm n.toNat 2=0∧lm n.toNat 3=0:=by
 rw[wu64]
 refine ⟨?_,?_,?_,?_⟩<;>(simp only[lm,Nat.reducePow];omega)
def rSm2:R0:=fun args l=>
 match args,l with
 | [.int .i64 (.sym n)],[]=>some (some (0≤n∧n<18446744073709551616),.agg [U (lm n.toNat 0),U (lm n.toNat 1),U (lm n.toNat 2),U (lm n.toNat 3)])
 | _,_=>none
theorem sm2_ok (args:List SV) (l:List (Nat×Reg)) (p:Ob) (v:SV) (h:rSm2 args l=some (p,v)) (hp:p.ok):∃U,execF cxEE U Tryz.f96 64 args (memL l) fun v' _=>∀β u,Den β v' u→Den β v u:=by
 unfold rSm2 at h
 split at h
 ·rename_i n
  simp only[Option.some.injEq,Prod.mk.injEq]at h
  obtain ⟨rfl,rfl⟩:=h
  have hn:0≤n∧n<18446744073709551616:=hp
  obtain ⟨e0,e1,e2,e3⟩:=lm_small hn
  refine ⟨u9,?_⟩
  rw[vc_sm2 n fun v'=>∀β u,Den β v' u→Den β (.agg [U (lm n.toNat 0),U (lm n.toNat 1),U (lm n.toNat 2),U (lm n.toNat 3)]) u,B1_eq,e0,e1,e2,e3]
  intro β u hu
  simp only[Den,DenL,A.val]at hu ⊢
  exact hu
 ·cases h
def cSm2:Rd Tryz.prog:=mkQ mixed 96 Tryz.func96 (by decide) (by kernel_rfl) [] [.num] rSm2 sm2_ok
def cxR2:Cx Tryz.prog:= { rds:= [cPP,cMl,cSb,cAd,cIm,cRt,cHd,cMle2,cIne2,cAde2,cSbe2,cSm2],efs:= [],eqs:= [eq23,eq43] }
def e1 (n:Nat):F2:=⟨n,0⟩
theorem e1_ok {n:Nat} (h:n<qN):(e1 n).ok:=⟨h,q_pos⟩
theorem lm0 (i:Nat):lm 0 i=0:=by unfold lm;simp
theorem pE_l {p:F2} (h:p.ok):pE (lm p.a 0) (lm p.a 1) (lm p.a 2) (lm p.a 3) (lm p.b 0) (lm p.b 1) (lm p.b 2) (lm p.b 3)=p:=(wp_lm h).num
theorem Pr_l {p:F2} (h:p.ok):Pr (lm p.a 0) (lm p.a 1) (lm p.a 2) (lm p.a 3) (lm p.b 0) (lm p.b 1) (lm p.b 2) (lm p.b 3)=True:=eq_true (wp_lm h).pr
theorem pE_emul (p q:F2):pE (lm (F2.a (emul p q)) 0) (lm (F2.a (emul p q)) 1) (lm (F2.a (emul p q)) 2) (lm (F2.a (emul p q)) 3) (lm (F2.b (emul p q)) 0) (lm (F2.b (emul p q)) 1) (lm (F2.b (emul p q)) 2) (lm (F2.b (emul p q)) 3)=emul p q:=pE_l (emul_ok _ _)
theorem Pr_emul (p q:F2):Pr (lm (F2.a (emul p q)) 0) (lm (F2.a (emul p q)) 1) (lm (F2.a (emul p q)) 2) (lm (F2.a (emul p q)) 3) (lm (F2.b (emul p q)) 0) (lm (F2.b (emul p q)) 1) (lm (F2.b (emul p q)) 2) (lm (F2.b (emul p q)) 3)=True:=Pr_l (emul_ok _ _)
theorem pE_eadd (p q:F2):pE (lm (F2.a (eadd p q)) 0) (lm (F2.a (eadd p q)) 1) (lm (F2.a (eadd p q)) 2) (lm (F2.a (eadd p q)) 3) (lm (F2.b (eadd p q)) 0) (lm (F2.b (eadd p q)) 1) (lm (F2.b (eadd p q)) 2) (lm (F2.b (eadd p q)) 3)=eadd p q:=pE_l (eadd_ok _ _)
theorem Pr_eadd (p q:F2):Pr (lm (F2.a (eadd p q)) 0) (lm (F2.a (eadd p q)) 1) (lm (F2.a (eadd p q)) 2) (lm (F2.a (eadd p q)) 3) (lm (F2.b (eadd p q)) 0) (lm (F2.b (eadd p q)) 1) (lm (F2.b (eadd p q)) 2) (lm (F2.b (eadd p q)) 3)=True:=Pr_l (eadd_ok _ _)
theorem pE_esub (p q:F2):pE (lm (F2.a (esub p q)) 0) (lm (F2.a (esub p q)) 1) (lm (F2.a (esub p q)) 2) (lm (F2.a (esub p q)) 3) (lm (F2.b (esub p q)) 0) (lm (F2.b (esub p q)) 1) (lm (F2.b (esub p q)) 2) (lm (F2.b (esub p q)) 3)=esub p q:=pE_l (esub_ok _ _)
theorem Pr_esub (p q:F2):Pr (lm (F2.a (esub p q)) 0) (lm (F2.a (esub p q)) 1) (lm (F2.a (esub p q)) 2) (lm (F2.a (esub p q)) 3) (lm (F2.b (esub p q)) 0) (lm (F2.b (esub p q)) 1) (lm (F2.b (esub p q)) 2) (lm (F2.b (esub p q)) 3)=True:=Pr_l (esub_ok _ _)
theorem pE_einv (p:F2):pE (lm (F2.a (einv p)) 0) (lm (F2.a (einv p)) 1) (lm (F2.a (einv p)) 2) (lm (F2.a (einv p)) 3) (lm (F2.b (einv p)) 0) (lm (F2.b (einv p)) 1) (lm (F2.b (einv p)) 2) (lm (F2.b (einv p)) 3)=einv p:=pE_l (einv_ok _)
theorem Pr_einv (p:F2):Pr (lm (F2.a (einv p)) 0) (lm (F2.a (einv p)) 1) (lm (F2.a (einv p)) 2) (lm (F2.a (einv p)) 3) (lm (F2.b (einv p)) 0) (lm (F2.b (einv p)) 1) (lm (F2.b (einv p)) 2) (lm (F2.b (einv p)) 3)=True:=Pr_l (einv_ok _)
theorem pE_reV (p:F2):pE (lm (F2.a (reV p)) 0) (lm (F2.a (reV p)) 1) (lm (F2.a (reV p)) 2) (lm (F2.a (reV p)) 3) (lm (F2.b (reV p)) 0) (lm (F2.b (reV p)) 1) (lm (F2.b (reV p)) 2) (lm (F2.b (reV p)) 3)=reV p:=pE_l (reV_ok p)
theorem Pr_reV (p:F2):Pr (lm (F2.a (reV p)) 0) (lm (F2.a (reV p)) 1) (lm (F2.a (reV p)) 2) (lm (F2.a (reV p)) 3) (lm (F2.b (reV p)) 0) (lm (F2.b (reV p)) 1) (lm (F2.b (reV p)) 2) (lm (F2.b (reV p)) 3)=True:=Pr_l (reV_ok p)
theorem pE_e1:pE (lm (F2.a (e1 1)) 0) (lm (F2.a (e1 1)) 1) (lm (F2.a (e1 1)) 2) (lm (F2.a (e1 1)) 3) (lm (F2.b (e1 1)) 0) (lm (F2.b (e1 1)) 1) (lm (F2.b (e1 1)) 2) (lm (F2.b (e1 1)) 3)=e1 1:=pE_l (e1_ok (by decide))
theorem Pr_e1:Pr (lm (F2.a (e1 1)) 0) (lm (F2.a (e1 1)) 1) (lm (F2.a (e1 1)) 2) (lm (F2.a (e1 1)) 3) (lm (F2.b (e1 1)) 0) (lm (F2.b (e1 1)) 1) (lm (F2.b (e1 1)) 2) (lm (F2.b (e1 1)) 3)=True:=Pr_l (e1_ok (by decide))
theorem pE_e2:pE (lm (F2.a (e1 2)) 0) (lm (F2.a (e1 2)) 1) (lm (F2.a (e1 2)) 2) (lm (F2.a (e1 2)) 3) (lm (F2.b (e1 2)) 0) (lm (F2.b (e1 2)) 1) (lm (F2.b (e1 2)) 2) (lm (F2.b (e1 2)) 3)=e1 2:=pE_l (e1_ok (by decide))
theorem Pr_e2:Pr (lm (F2.a (e1 2)) 0) (lm (F2.a (e1 2)) 1) (lm (F2.a (e1 2)) 2) (lm (F2.a (e1 2)) 3) (lm (F2.b (e1 2)) 0) (lm (F2.b (e1 2)) 1) (lm (F2.b (e1 2)) 2) (lm (F2.b (e1 2)) 3)=True:=Pr_l (e1_ok (by decide))
theorem pE_e3:pE (lm (F2.a (e1 3)) 0) (lm (F2.a (e1 3)) 1) (lm (F2.a (e1 3)) 2) (lm (F2.a (e1 3)) 3) (lm (F2.b (e1 3)) 0) (lm (F2.b (e1 3)) 1) (lm (F2.b (e1 3)) 2) (lm (F2.b (e1 3)) 3)=e1 3:=pE_l (e1_ok (by decide))
theorem Pr_e3:Pr (lm (F2.a (e1 3)) 0) (lm (F2.a (e1 3)) 1) (lm (F2.a (e1 3)) 2) (lm (F2.a (e1 3)) 3) (lm (F2.b (e1 3)) 0) (lm (F2.b (e1 3)) 1) (lm (F2.b (e1 3)) 2) (lm (F2.b (e1 3)) 3)=True:=Pr_l (e1_ok (by decide))
theorem pE_e4:pE (lm (F2.a (e1 4)) 0) (lm (F2.a (e1 4)) 1) (lm (F2.a (e1 4)) 2) (lm (F2.a (e1 4)) 3) (lm (F2.b (e1 4)) 0) (lm (F2.b (e1 4)) 1) (lm (F2.b (e1 4)) 2) (lm (F2.b (e1 4)) 3)=e1 4:=pE_l (e1_ok (by decide))
theorem Pr_e4:Pr (lm (F2.a (e1 4)) 0) (lm (F2.a (e1 4)) 1) (lm (F2.a (e1 4)) 2) (lm (F2.a (e1 4)) 3) (lm (F2.b (e1 4)) 0) (lm (F2.b (e1 4)) 1) (lm (F2.b (e1 4)) 2) (lm (F2.b (e1 4)) 3)=True:=Pr_l (e1_ok (by decide))
theorem vc_on2 (n:Int) (P:SV→Prop):(execF cxR2 u9 Tryz.f45 64 [.int .i64 (.sym n)] (memL []) fun v _=>P v)=(((0≤n)∧(n<18446744073709551616))
 ∧(L4 (Int.toNat n) fun x0 x1 x2 x3=>(P (SV.agg [(U x0),(U x1),(U x2),(U x3),(SV.int IntKind.u64 (A.lit 0)),(SV.int IntKind.u64 (A.lit 0)),(SV.int IntKind.u64
 (A.lit 0)),(SV.int IntKind.u64 (A.lit 0))])))):=by kernel_rfl
theorem vc_cv2 (v0 v1 v2 v3 v4 v5 v6 v7 w0 w1 w2 w3 w4 w5 w6 w7:Int) (P:SV→Prop):(execF cxR2 u9 Tryz.f48 64 [.agg [.int .u64 (.sym v0),.int .u64
 (.sym v1),.int .u64 (.sym v2),.int .u64 (.sym v3),.int .u64 (.sym v4),.int .u64 (.sym v5),.int .u64 (.sym v6),.int .u64 (.sym v7)],.agg [.int .u64
 (.sym w0),.int .u64 (.sym w1),.int .u64 (.sym w2),.int .u64 (.sym w3),.int .u64 (.sym w4),.int .u64 (.sym w5),.int .u64 (.sym w6),.int .u64 (.sym w7)]]
 (memL []) fun v _=>P v)=(B4 v0 v1 v2 v3 fun x0 x1 x2 x3=>B4 v4 v5 v6 v7 fun x4 x5 x6 x7=>B4 v0 v1 v2 v3 fun x8 x9 x10 x11=>B4 v4 v5 v6 v7 fun x12 x13 x14 x15=>B4 v0 v1 v2 v3 fun x16 x17 x18 x19=>B4 v4 v5 v6 v7 fun x20 x21 x22 x23=>
 (((Pr x8 x9 x10 x11 x12 x13 x14 x15)∧(Pr x16 x17 x18 x19 x20 x21 x22 x23))∧(L4 (F2.a (emul (pE x8 x9 x10 x11 x12 x13 x14 x15) (pE x16 x17 x18 x19 x20 x21 x22 x23))) fun x24 x25 x26 x27=>L4
 (F2.b (emul (pE x8 x9 x10 x11 x12 x13 x14 x15) (pE x16 x17 x18 x19 x20 x21 x22 x23))) fun x28 x29 x30 x31=>(((Pr x0 x1 x2 x3 x4 x5 x6 x7)∧(Pr x24 x25 x26 x27 x28 x29 x30 x31))
 ∧(L4 (F2.a (emul (pE x0 x1 x2 x3 x4 x5 x6 x7) (pE x24 x25 x26 x27 x28 x29 x30 x31))) fun x32 x33 x34 x35=>L4 (F2.b (emul (pE x0 x1 x2 x3 x4 x5 x6 x7)
 (pE x24 x25 x26 x27 x28 x29 x30 x31))) fun x36 x37 x38 x39=>B4 w0 w1 w2 w3 fun x40 x41 x42 x43=>B4 w4 w5 w6 w7 fun x44 x45 x46 x47=>(((Pr x32 x33 x34 x35 x36 x37 x38 x39)
 ∧(Pr x40 x41 x42 x43 x44 x45 x46 x47))∧(L4 (F2.a (eadd (pE x32 x33 x34 x35 x36 x37 x38 x39) (pE x40 x41 x42 x43 x44 x45 x46 x47))) fun x48 x49 x50 x51=>L4
 (F2.b (eadd (pE x32 x33 x34 x35 x36 x37 x38 x39) (pE x40 x41 x42 x43 x44 x45 x46 x47))) fun x52 x53 x54 x55=>(P (SV.agg [(U x48),(U x49),(U x50),
 (U x51),(U x52),(U x53),(U x54),(U x55)]))))))))):=by kernel_rfl
theorem vc_re2 (v0 v1 v2 v3 v4 v5 v6 v7:Int) (P:SV→Prop):(execF cxR2 u9 Tryz.f49 64 [.agg [.int .u64 (.sym v0),.int .u64 (.sym v1),.int .u64
 (.sym v2),.int .u64 (.sym v3),.int .u64 (.sym v4),.int .u64 (.sym v5),.int .u64 (.sym v6),.int .u64 (.sym v7)]] (memL []) fun v _=>P v)=(B4 v4 v5 v6 v7 fun x0 x1 x2 x3=>
 ((((decide ([x0,x1,x2,x3]= [0,0,0,0]))=Bool.true)→(B4 v0 v1 v2 v3 fun x4 x5 x6 x7=>((W4 x4 x5 x6 x7)∧((((sqN (N4 x4 x5 x6 x7))=Bool.true)
 →(L4 (rtN (N4 x4 x5 x6 x7)) fun x8 x9 x10 x11=>(P (SV.tup [(SV.agg [(U x8),(U x9),(U x10),(U x11),(SV.int IntKind.u64 (A.lit 0)),(SV.int IntKind.u64
 (A.lit 0)),(SV.int IntKind.u64 (A.lit 0)),(SV.int IntKind.u64 (A.lit 0))]),(SV.bool (B.lit Bool.true))]))))∧(((sqN (N4 x4 x5 x6 x7))=Bool.false)
 →(B4 v0 v1 v2 v3 fun x12 x13 x14 x15=>((((W4 0 0 0 0)∧(W4 x12 x13 x14 x15))∧(((0:Int)<qI)∧((V4 x12 x13 x14 x15)<qI)))∧(L4 ((0+(qN -
 (N4 x12 x13 x14 x15)))%qN) fun x16 x17 x18 x19=>((W4 x16 x17 x18 x19)∧(L4 (rtN (N4 x16 x17 x18 x19)) fun x20 x21 x22 x23=>(P (SV.tup [(SV.agg [(SV.int IntKind.u64
 (A.lit 0)),(SV.int IntKind.u64 (A.lit 0)),(SV.int IntKind.u64 (A.lit 0)),(SV.int IntKind.u64 (A.lit 0)),(U x20),(U x21),(U x22),(U x23)]),(SV.bool
 (B.sym (sqN (N4 x16 x17 x18 x19))))]))))))))))))∧(((decide ([x0,x1,x2,x3]= [0,0,0,0]))=Bool.false)→(B4 v0 v1 v2 v3 fun x24 x25 x26 x27=>B4 v0 v1 v2 v3 fun x28 x29 x30 x31=>
 (((W4 x24 x25 x26 x27)∧(W4 x28 x29 x30 x31))∧(L4 (((N4 x24 x25 x26 x27)*(N4 x28 x29 x30 x31))%qN) fun x32 x33 x34 x35=>B4 v4 v5 v6 v7 fun x36 x37 x38 x39=>B4 v4 v5 v6 v7 fun x40 x41 x42 x43=>
 (((W4 x36 x37 x38 x39)∧(W4 x40 x41 x42 x43))∧(L4 (((N4 x36 x37 x38 x39)*(N4 x40 x41 x42 x43))%qN) fun x44 x45 x46 x47=>((((W4 x32 x33 x34 x35)
 ∧(W4 x44 x45 x46 x47))∧(((V4 x32 x33 x34 x35)<qI)∧((V4 x44 x45 x46 x47)<qI)))∧(L4 (A4 x32 x33 x34 x35 x44 x45 x46 x47) fun x48 x49 x50 x51=>
 ((W4 x48 x49 x50 x51)∧((((Bool.not (sqN (N4 x48 x49 x50 x51)))=Bool.true)→(P (SV.tup [(SV.agg [(SV.int IntKind.u64 (A.lit 0)),(SV.int IntKind.u64
 (A.lit 0)),(SV.int IntKind.u64 (A.lit 0)),(SV.int IntKind.u64 (A.lit 0)),(SV.int IntKind.u64 (A.lit 0)),(SV.int IntKind.u64 (A.lit 0)),(SV.int IntKind.u64
 (A.lit 0)),(SV.int IntKind.u64 (A.lit 0))]),(SV.bool (B.lit Bool.false))])))∧(((Bool.not (sqN (N4 x48 x49 x50 x51)))=Bool.false)→(B4 v0 v1 v2 v3 fun x52 x53 x54 x55=>L4
 (rtN (N4 x48 x49 x50 x51)) fun x56 x57 x58 x59=>((((W4 x52 x53 x54 x55)∧(W4 x56 x57 x58 x59))∧(((V4 x52 x53 x54 x55)<qI)∧((V4 x56 x57 x58 x59)<qI)))
 ∧(L4 (A4 x52 x53 x54 x55 x56 x57 x58 x59) fun x60 x61 x62 x63=>(((W4 x60 x61 x62 x63)∧(W4 4332616871279656263 10917124144477883021 13281191951274694749 3486998266802970665))
 ∧(L4 (hvm (N4 x60 x61 x62 x63) qN) fun x64 x65 x66 x67=>((W4 x64 x65 x66 x67)∧((((Bool.not (sqN (N4 x64 x65 x66 x67)))=Bool.true)→(B4 v0 v1 v2 v3 fun x68 x69 x70 x71=>L4
 (rtN (N4 x48 x49 x50 x51)) fun x72 x73 x74 x75=>((((W4 x68 x69 x70 x71)∧(W4 x72 x73 x74 x75))∧(((V4 x68 x69 x70 x71)<qI)∧((V4 x72 x73 x74 x75)<qI)))
 ∧(L4 (((N4 x68 x69 x70 x71)+(qN-(N4 x72 x73 x74 x75)))%qN) fun x76 x77 x78 x79=>(((W4 x76 x77 x78 x79)∧(W4 4332616871279656263 10917124144477883021 13281191951274694749 3486998266802970665))
 ∧(L4 (hvm (N4 x76 x77 x78 x79) qN) fun x80 x81 x82 x83=>((W4 x80 x81 x82 x83)∧(L4 (rtN (N4 x80 x81 x82 x83)) fun x84 x85 x86 x87=>B4 v4 v5 v6 v7 fun x88 x89 x90 x91=>L4
 (rtN (N4 x80 x81 x82 x83)) fun x92 x93 x94 x95=>L4 (rtN (N4 x80 x81 x82 x83)) fun x96 x97 x98 x99=>((((W4 x92 x93 x94 x95)∧(W4 x96 x97 x98 x99))
 ∧(((V4 x92 x93 x94 x95)<qI)∧((V4 x96 x97 x98 x99)<qI)))∧(L4 (A4 x92 x93 x94 x95 x96 x97 x98 x99) fun x100 x101 x102 x103=>((((W4 x100 x101 x102 x103)
 ∧(W4 4332616871279656263 10917124144477883021 13281191951274694749 3486998266802970665))∧(((V4 x100 x101 x102 x103)<qI)∧(qI=qI)))∧(L4 (inv0
 (N4 x100 x101 x102 x103)) fun x104 x105 x106 x107=>(((W4 x88 x89 x90 x91)∧(W4 x104 x105 x106 x107))∧(L4 (((N4 x88 x89 x90 x91)*(N4 x104 x105 x106 x107))%qN) fun x108 x109 x110 x111=>B4 x84 x85 x86 x87 fun x112 x113 x114 x115=>B4 x108 x109 x110 x111 fun x116 x117 x118 x119=>B4 x84 x85 x86 x87 fun x120 x121 x122 x123=>B4 x108 x109 x110 x111 fun x124 x125 x126 x127=>B4 x84 x85 x86 x87 fun x128 x129 x130 x131=>B4 x108 x109 x110 x111 fun x132 x133 x134 x135=>
 (((Pr x120 x121 x122 x123 x124 x125 x126 x127)∧(Pr x128 x129 x130 x131 x132 x133 x134 x135))∧(L4 (F2.a (emul (pE x120 x121 x122 x123 x124 x125 x126 x127)
 (pE x128 x129 x130 x131 x132 x133 x134 x135))) fun x136 x137 x138 x139=>L4 (F2.b (emul (pE x120 x121 x122 x123 x124 x125 x126 x127) (pE x128 x129 x130 x131 x132 x133 x134 x135))) fun x140 x141 x142 x143=>B4 v0 v1 v2 v3 fun x144 x145 x146 x147=>B4 v4 v5 v6 v7 fun x148 x149 x150 x151=>
 (P (SV.tup [(SV.agg [(U x112),(U x113),(U x114),(U x115),(U x116),(U x117),(U x118),(U x119)]),(SV.bool (B.sym (decide ([x136,x137,x138,x139,x140,x141,x142,x143]= [x144,x145,x146,x147,x148,x149,x150,x151]))))]))))))))))))))))))
 ∧(((Bool.not (sqN (N4 x64 x65 x66 x67)))=Bool.false)→(L4 (rtN (N4 x64 x65 x66 x67)) fun x152 x153 x154 x155=>B4 v4 v5 v6 v7 fun x156 x157 x158 x159=>L4
 (rtN (N4 x64 x65 x66 x67)) fun x160 x161 x162 x163=>L4 (rtN (N4 x64 x65 x66 x67)) fun x164 x165 x166 x167=>((((W4 x160 x161 x162 x163)∧(W4 x164 x165 x166 x167))
 ∧(((V4 x160 x161 x162 x163)<qI)∧((V4 x164 x165 x166 x167)<qI)))∧(L4 (A4 x160 x161 x162 x163 x164 x165 x166 x167) fun x168 x169 x170 x171=>((((W4 x168 x169 x170 x171)
 ∧(W4 4332616871279656263 10917124144477883021 13281191951274694749 3486998266802970665))∧(((V4 x168 x169 x170 x171)<qI)∧(qI=qI)))∧(L4 (inv0
 (N4 x168 x169 x170 x171)) fun x172 x173 x174 x175=>(((W4 x156 x157 x158 x159)∧(W4 x172 x173 x174 x175))∧(L4 (((N4 x156 x157 x158 x159)*(N4 x172 x173 x174 x175))%qN) fun x176 x177 x178 x179=>B4 x152 x153 x154 x155 fun x180 x181 x182 x183=>B4 x176 x177 x178 x179 fun x184 x185 x186 x187=>B4 x152 x153 x154 x155 fun x188 x189 x190 x191=>B4 x176 x177 x178 x179 fun x192 x193 x194 x195=>B4 x152 x153 x154 x155 fun x196 x197 x198 x199=>B4 x176 x177 x178 x179 fun x200 x201 x202 x203=>
 (((Pr x188 x189 x190 x191 x192 x193 x194 x195)∧(Pr x196 x197 x198 x199 x200 x201 x202 x203))∧(L4 (F2.a (emul (pE x188 x189 x190 x191 x192 x193 x194 x195)
 (pE x196 x197 x198 x199 x200 x201 x202 x203))) fun x204 x205 x206 x207=>L4 (F2.b (emul (pE x188 x189 x190 x191 x192 x193 x194 x195) (pE x196 x197 x198 x199 x200 x201 x202 x203))) fun x208 x209 x210 x211=>B4 v0 v1 v2 v3 fun x212 x213 x214 x215=>B4 v4 v5 v6 v7 fun x216 x217 x218 x219=>
 (P (SV.tup [(SV.agg [(U x180),(U x181),(U x182),(U x183),(U x184),(U x185),(U x186),(U x187)]),(SV.bool (B.sym (decide ([x204,x205,x206,x207,x208,x209,x210,x211]= [x212,x213,x214,x215,x216,x217,x218,x219]))))])))))))))))))))))))))))))))))))):=by kernel_rfl
def rOn2:R0:=fun args l=>
 match args,l with
 | [.int .i64 (.sym n)],[]=>some (some (0≤n∧n<18446744073709551616),agE (e1 n.toNat))
 | _,_=>none
theorem on2_ok (args:List SV) (l:List (Nat×Reg)) (p:Ob) (v:SV) (h:rOn2 args l=some (p,v)) (hp:p.ok):∃U,execF cxR2 U Tryz.f45 64 args (memL l) fun v' _=>∀β u,Den β v' u→Den β v u:=by
 unfold rOn2 at h
 split at h
 ·rename_i n
  simp only[Option.some.injEq,Prod.mk.injEq]at h
  obtain ⟨rfl,rfl⟩:=h
  refine ⟨u9,?_⟩
  rw[vc_on2 n fun v'=>∀β u,Den β v' u→Den β (agE (e1 n.toNat)) u,L4_eq]
  refine ⟨hp,?_⟩
  intro β u hu
  simp only[agE,e1,U,lm0,Den,DenL,A.val]at hu ⊢
  exact hu
 ·cases h
def cOn2:Rd Tryz.prog:=mkQ mixed 45 Tryz.func45 (by decide) (by kernel_rfl) [] [.num] rOn2 on2_ok
def cvE (x b:F2):F2:=eadd (emul x (emul x x)) b
def rCv2:R0:=fun args l=>
 match args,l with
 | [.agg [.int .u64 (.sym v0),.int .u64 (.sym v1),.int .u64 (.sym v2),.int .u64 (.sym v3),.int .u64 (.sym v4),.int .u64 (.sym v5),.int .u64 (.sym v6),.int .u64 (.sym v7)],.agg [.int .u64 (.sym w0),.int .u64 (.sym w1),.int .u64 (.sym w2),.int .u64 (.sym w3),.int .u64 (.sym w4),.int .u64 (.sym w5),.int .u64 (.sym w6),.int .u64 (.sym w7)]],[]=>some (some (Pr v0 v1 v2 v3 v4 v5 v6 v7∧Pr w0 w1 w2 w3 w4 w5 w6 w7),agE (cvE (pE v0 v1 v2 v3 v4 v5 v6 v7) (pE w0 w1 w2 w3 w4 w5 w6 w7)))
 | _,_=>none
theorem cv2_ok (args:List SV) (l:List (Nat×Reg)) (p:Ob) (v:SV) (h:rCv2 args l=some (p,v)) (hp:p.ok):∃U,execF cxR2 U Tryz.f48 64 args (memL l) fun v' _=>v'=v:=by
 unfold rCv2 at h
 split at h
 ·rename_i v0 v1 v2 v3 v4 v5 v6 v7 w0 w1 w2 w3 w4 w5 w6 w7
  simp only[Option.some.injEq,Prod.mk.injEq]at h
  obtain ⟨rfl,rfl⟩:=h
  obtain ⟨h1,h2⟩:=(show Pr v0 v1 v2 v3 v4 v5 v6 v7∧Pr w0 w1 w2 w3 w4 w5 w6 w7 from hp)
  refine ⟨u9,?_⟩
  rw[vc_cv2 v0 v1 v2 v3 v4 v5 v6 v7 w0 w1 w2 w3 w4 w5 w6 w7 fun v'=>v'=_]
  have a1:Pr v0 v1 v2 v3 v4 v5 v6 v7=True:=eq_true h1
  have a2:Pr w0 w1 w2 w3 w4 w5 w6 w7=True:=eq_true h2
  simp only[↓L4_eq,↓B4_eq,a1,a2,pE_emul,Pr_emul,and_self,true_and]
  rfl
 ·cases h
def cCv2:Rd Tryz.prog:=mkR mixed 48 Tryz.func48 (by decide) (by kernel_rfl) [] [.num,.num] rCv2 cv2_ok
theorem N4h (a:Nat):N4 (lm (hvm (a%qN) qN) 0) (lm (hvm (a%qN) qN) 1) (lm (hvm (a%qN) qN) 2) (lm (hvm (a%qN) qN) 3)=hvm (a%qN) qN:=N4l (hvq_lt (Nat.mod_lt _ (by decide)))
theorem l8_iff {a0 a1 a2 a3 a4 a5 a6 a7 b0 b1 b2 b3 b4 b5 b6 b7:Int} {p q:F2} (hp:Wp a0 a1 a2 a3 a4 a5 a6 a7 p) (hq:Wp b0 b1 b2 b3 b4 b5 b6 b7 q): [a0,a1,a2,a3,a4,a5,a6,a7]= [b0,b1,b2,b3,b4,b5,b6,b7]↔p.a=q.a∧p.b=q.b:=by
 rw[←w_iff hp.a hq.a,←w_iff hp.b hq.b]
 simp only[List.cons.injEq,and_true,and_assoc]
def Leaf (P:SV→Prop) (v:SV):Prop:=∀v',(∀β u,Den β v' u→Den β v u)→P v'
theorem re_out {p q:F2} {b:Bool} {B':B} {P:SV→Prop} (hP:Leaf P (.tup [agE (reV p),.bool (.sym (reB p))])) (e:reV p=q) (f:reB p=b) (hb:B'.val=b):P (.tup [agE q,.bool B']):=by
 refine hP _ fun β u hu=> ?_
 rw[e,f]
 simp only[Den,DenL]at hu ⊢
 rw[hb]at hu
 exact hu
theorem re_outl {p:F2} {x0 x1 x2 x3 x4 x5 x6 x7:A} {q:F2} {b:Bool} {B':B} {P:SV→Prop} (hP:Leaf P (.tup [agE (reV p),.bool (.sym (reB p))])) (e:reV p=q) (f:reB p=b) (hb:B'.val=b)
  (k:(x0.val=lm q.a 0∧x1.val=lm q.a 1∧x2.val=lm q.a 2∧x3.val=lm q.a 3)∧x4.val=lm q.b 0∧x5.val=lm q.b 1∧x6.val=lm q.b 2∧x7.val=lm q.b 3):
  P (.tup [.agg [.int .u64 x0,.int .u64 x1,.int .u64 x2,.int .u64 x3,.int .u64 x4,.int .u64 x5,.int .u64 x6,.int .u64 x7],.bool B']):=by
 refine hP _ fun β u hu=> ?_
 rw[e,f]
 obtain ⟨⟨k0,k1,k2,k3⟩,k4,k5,k6,k7⟩:=k
 simp only[agE,U,Den,DenL]at hu ⊢
 rw[hb,k0,k1,k2,k3,k4,k5,k6,k7]at hu
 exact hu
theorem re_last {v0 v1 v2 v3 v4 v5 v6 v7:Int} {p o:F2} {P:SV→Prop} (hp:Wp v0 v1 v2 v3 v4 v5 v6 v7 p) (ho:o.ok) (eV:reV p=o) (eB:reB p=decide ((emul o o).a=p.a∧(emul o o).b=p.b)) (hP:Leaf P (.tup [agE (reV p),.bool (.sym (reB p))])):
  Pr (lm o.a 0) (lm o.a 1) (lm o.a 2) (lm o.a 3) (lm o.b 0) (lm o.b 1) (lm o.b 2) (lm o.b 3)∧P (.tup [.agg [U (lm o.a 0),U (lm o.a 1),U (lm o.a 2),U (lm o.a 3),U (lm o.b 0),U (lm o.b 1),U (lm o.b 2),U (lm o.b 3)],.bool (.sym (decide ([lm (emul (pE (lm o.a 0) (lm o.a 1) (lm o.a 2) (lm o.a 3) (lm o.b 0) (lm o.b 1) (lm o.b 2) (lm o.b 3)) (pE (lm o.a 0) (lm o.a 1) (lm o.a 2) (lm o.a 3) (lm o.b 0) (lm o.b 1) (lm o.b 2) (lm o.b 3))).a 0,lm (emul (pE (lm o.a 0) (lm o.a 1) (lm o.a 2) (lm o.a 3) (lm o.b 0) (lm o.b 1) (lm o.b 2) (lm o.b 3)) (pE (lm o.a 0) (lm o.a 1) (lm o.a 2) (lm o.a 3) (lm o.b 0) (lm o.b 1) (lm o.b 2) (lm o.b 3))).a 1,lm (emul (pE (lm o.a 0) (lm o.a 1) (lm o.a 2) (lm o.a 3) (lm o.b 0) (lm o.b 1) (lm o.b 2) (lm o.b 3)) (pE (lm o.a 0) (lm o.a 1) (lm o.a 2) (lm o.a 3) (lm o.b 0) (lm o.b 1) (lm o.b 2) (lm o.b 3))).a 2,lm (emul (pE (lm o.a 0) (lm o.a 1) (lm o.a 2) (lm o.a 3) (lm o.b 0) (lm o.b 1) (lm o.b 2) (lm o.b 3)) (pE (lm o.a 0) (lm o.a 1) (lm o.a 2) (lm o.a 3) (lm o.b 0) (lm o.b 1) (lm o.b 2) (lm o.b 3))).a 3,lm (emul (pE (lm o.a 0) (lm o.a 1) (lm o.a 2) (lm o.a 3) (lm o.b 0) (lm o.b 1) (lm o.b 2) (lm o.b 3)) (pE (lm o.a 0) (lm o.a 1) (lm o.a 2) (lm o.a 3) (lm o.b 0) (lm o.b 1) (lm o.b 2) (lm o.b 3))).b 0,lm (emul (pE (lm o.a 0) (lm o.a 1) (lm o.a 2) (lm o.a 3) (lm o.b 0) (lm o.b 1) (lm o.b 2) (lm o.b 3)) (pE (lm o.a 0) (lm o.a 1) (lm o.a 2) (lm o.a 3) (lm o.b 0) (lm o.b 1) (lm o.b 2) (lm o.b 3))).b 1,lm (emul (pE (lm o.a 0) (lm o.a 1) (lm o.a 2) (lm o.a 3) (lm o.b 0) (lm o.b 1) (lm o.b 2) (lm o.b 3)) (pE (lm o.a 0) (lm o.a 1) (lm o.a 2) (lm o.a 3) (lm o.b 0) (lm o.b 1) (lm o.b 2) (lm o.b 3))).b 2,lm (emul (pE (lm o.a 0) (lm o.a 1) (lm o.a 2) (lm o.a 3) (lm o.b 0) (lm o.b 1) (lm o.b 2) (lm o.b 3)) (pE (lm o.a 0) (lm o.a 1) (lm o.a 2) (lm o.a 3) (lm o.b 0) (lm o.b 1) (lm o.b 2) (lm o.b 3))).b 3]= [v0,v1,v2,v3,v4,v5,v6,v7])))]):=by
 refine ⟨(wp_lm ho).pr,re_out hP eV eB ?_⟩
 rw[pE_l ho]
 have e:=l8_iff (wp_lm (emul_ok o o)) hp
 simp only[B.val]
 rw[decide_eq_decide]
 exact e
theorem re2_walk {v0 v1 v2 v3 v4 v5 v6 v7:Int} {p:F2} {P:SV→Prop} (hp:Wp v0 v1 v2 v3 v4 v5 v6 v7 p) (hP:Leaf P (.tup [agE (reV p),.bool (.sym (reB p))])):
  execF cxR2 u9 Tryz.f49 64 [.agg [.int .u64 (.sym v0),.int .u64 (.sym v1),.int .u64 (.sym v2),.int .u64 (.sym v3),.int .u64 (.sym v4),.int .u64 (.sym v5),.int .u64 (.sym v6),.int .u64 (.sym v7)]] (memL []) fun v _=>P v:=by
 rw[vc_re2]
 have wa:W4 v0 v1 v2 v3=True:=eq_true hp.a.wd
 have wb:W4 v4 v5 v6 v7=True:=eq_true hp.b.wd
 have na:N4 v0 v1 v2 v3=p.a:=Vx hp.a
 have nb:N4 v4 v5 v6 v7=p.b:=Vx hp.b
 have va:(V4 v0 v1 v2 v3<qI)=True:=eq_true hp.pr.2.1
 have vb:(V4 v4 v5 v6 v7<qI)=True:=eq_true hp.pr.2.2
 have wq:W4 4332616871279656263 10917124144477883021 13281191951274694749 3486998266802970665=True:=eq_true q_ws.wd
 have nn:N4 (lm (enorm p) 0) (lm (enorm p) 1) (lm (enorm p) 2) (lm (enorm p) 3)=enorm p:=N4l (enorm_lt p)
 have nH:N4 (lm (reH p) 0) (lm (reH p) 1) (lm (reH p) 2) (lm (reH p) 3)=reH p:=N4l (hvq_lt (aq_lt _ _))
 have nK:N4 (lm (reK p) 0) (lm (reK p) 1) (lm (reK p) 2) (lm (reK p) 3)=reK p:=N4l (hvq_lt (dq_lt _ _))
 have en:(p.a*p.a%qN+p.b*p.b%qN)%qN=enorm p:=rfl
 have eh:hvm ((p.a+rtN (enorm p))%qN) qN=reH p:=rfl
 have ek:hvm ((p.a+(qN-rtN (enorm p)))%qN) qN=reK p:=rfl
 simp only[wa,wb,na,nb,va,wq,nn,nH,nK,A4_eq,↓L4_eq,↓B4_eq,N4q,N4i,N4r,W4l,W4_0,Vq_lt,Vr_lt,z_lt,true_and,and_self,decide_eq_true_eq,decide_eq_false_iff_not,Bool.not_eq_true',Bool.not_eq_false',z4_iff hp.b,en,eh,ek]
 refine ⟨fun h0=>⟨fun s=> ?_,fun s=> ?_⟩,fun h0=>⟨fun s=> ?_,fun s=>⟨fun k=> ?_,fun k=> ?_⟩⟩⟩
 ·refine re_outl (q:=⟨rtN p.a,0⟩) (b:=true) hP ?_ ?_ rfl ?_
  ·unfold reV
   rw[if_pos h0,if_pos s]
  ·unfold reB
   rw[if_pos h0,if_pos s]
  ·simp only[A.val,lm0,and_self]
 ·rw[show (0+(qN-p.a))%qN=dq 0 p.a from rfl]
  refine re_outl (q:=⟨0,rtN (dq 0 p.a)⟩) (b:=sqN (dq 0 p.a)) hP ?_ ?_ ?_ ?_
  ·unfold reV
   rw[if_pos h0,if_neg (by rw[s];decide)]
  ·unfold reB
   rw[if_pos h0,if_neg (by rw[s];decide)]
  ·simp only[B.val]
  ·simp only[A.val,lm0,and_self]
 ·refine re_outl (q:=⟨0,0⟩) (b:=false) hP ?_ ?_ rfl ?_
  ·unfold reV
   rw[if_neg h0,if_neg (by rw[s];decide)]
  ·unfold reB
   rw[if_neg h0,if_neg (by rw[s];decide)]
  ·simp only[A.val,lm0,and_self]
 ·have hy:reY p=rtN (reK p):=by
   unfold reY
   rw[if_neg (by rw[k];decide)]
  exact re_last (o:=⟨rtN (reK p),p.b*inv0 ((rtN (reK p)+rtN (reK p))%qN)%qN⟩) hp ⟨rtN_lt _,Nat.mod_lt _ q_pos⟩
   (by unfold reV;rw[if_neg h0,if_pos s];unfold reO;rw[hy];rfl) (by unfold reB;rw[if_neg h0,if_pos s];unfold reO;rw[hy];rfl) hP
 ·have hy:reY p=rtN (reH p):=by
   unfold reY
   rw[if_pos k]
  exact re_last (o:=⟨rtN (reH p),p.b*inv0 ((rtN (reH p)+rtN (reH p))%qN)%qN⟩) hp ⟨rtN_lt _,Nat.mod_lt _ q_pos⟩
   (by unfold reV;rw[if_neg h0,if_pos s];unfold reO;rw[hy];rfl) (by unfold reB;rw[if_neg h0,if_pos s];unfold reO;rw[hy];rfl) hP
def rRe2:R0:=fun args l=>
 match args,l with
 | [.agg [.int .u64 (.sym v0),.int .u64 (.sym v1),.int .u64 (.sym v2),.int .u64 (.sym v3),.int .u64 (.sym v4),.int .u64 (.sym v5),.int .u64 (.sym v6),.int .u64 (.sym v7)]],[]=>some (some (Pr v0 v1 v2 v3 v4 v5 v6 v7),.tup [agE (reV (pE v0 v1 v2 v3 v4 v5 v6 v7)),.bool (.sym (reB (pE v0 v1 v2 v3 v4 v5 v6 v7)))])
 | _,_=>none
theorem re2_ok (args:List SV) (l:List (Nat×Reg)) (p:Ob) (v:SV) (h:rRe2 args l=some (p,v)) (hp:p.ok):∃U,execF cxR2 U Tryz.f49 64 args (memL l) fun v' _=>∀β u,Den β v' u→Den β v u:=by
 unfold rRe2 at h
 split at h
 ·rename_i v0 v1 v2 v3 v4 v5 v6 v7
  simp only[Option.some.injEq,Prod.mk.injEq]at h
  obtain ⟨rfl,rfl⟩:=h
  have h1:Pr v0 v1 v2 v3 v4 v5 v6 v7:=hp
  exact ⟨u9,re2_walk h1.wp fun v' hv=>hv⟩
 ·cases h
def cRe2:Rd Tryz.prog:=mkQ mixed 49 Tryz.func49 (by decide) (by kernel_rfl) [] [.num] rRe2 re2_ok
def cxSq2:Cx Tryz.prog:= { rds:= [cRe2,cOn2,cMle2,cIne2],efs:= [],eqs:= [eq43] }
instance (a b c d e f g h:Int):Decidable (Pr a b c d e f g h):=by unfold Pr W4;infer_instance
theorem vc_sq2 (v0 v1 v2 v3 v4 v5 v6 v7:Int) (P:SV→Prop):(execF cxSq2 u9 Tryz.f52 64 [.agg [.int .u64 (.sym v0),.int .u64 (.sym v1),.int .u64
 (.sym v2),.int .u64 (.sym v3),.int .u64 (.sym v4),.int .u64 (.sym v5),.int .u64 (.sym v6),.int .u64 (.sym v7)],.bool (.lit false)] (memL []) fun v _=>P v)=
 (B4 v0 v1 v2 v3 fun x0 x1 x2 x3=>B4 v4 v5 v6 v7 fun x4 x5 x6 x7=>((Pr x0 x1 x2 x3 x4 x5 x6 x7)∧(P (SV.bool (B.sym (reB (pE x0 x1 x2 x3 x4 x5 x6 x7))))))):=by kernel_rfl
theorem vc_tw2 (P:SV→Prop):(execF cxSq2 u9 Tryz.f20 64 [] (memL []) fun v _=>P v)=((((0:Int)≤3)∧((3:Int)<18446744073709551616))∧(B4 3 0 0 0 fun x0 x1 x2 x3=>B4 0 0 0 0 fun x4 x5 x6 x7=>
 ((Pr 9 0 0 0 1 0 0 0)∧(B4 10248034424649399249 11642518631491469716 5821525583728107135 3359425159480910763 fun x8 x9 x10 x11=>B4 2231142630478688288 17445674527600163279 1484426864484061071 2338840300904431544 fun x12 x13 x14 x15=>
 (((Pr x0 x1 x2 x3 x4 x5 x6 x7)∧(Pr x8 x9 x10 x11 x12 x13 x14 x15))∧(L4 (F2.a (emul (pE x0 x1 x2 x3 x4 x5 x6 x7) (pE x8 x9 x10 x11 x12 x13 x14 x15))) fun x16 x17 x18 x19=>L4
 (F2.b (emul (pE x0 x1 x2 x3 x4 x5 x6 x7) (pE x8 x9 x10 x11 x12 x13 x14 x15))) fun x20 x21 x22 x23=>(P (SV.agg [(U x16),(U x17),(U x18),(U x19),(U x20),
 (U x21),(U x22),(U x23)])))))))):=by kernel_rfl
def rSq2:R0:=fun args l=>
 match args,l with
 | [.agg [.int .u64 (.sym v0),.int .u64 (.sym v1),.int .u64 (.sym v2),.int .u64 (.sym v3),.int .u64 (.sym v4),.int .u64 (.sym v5),.int .u64 (.sym v6),.int .u64 (.sym v7)],.bool (.lit false)],[]=>some (some (Pr v0 v1 v2 v3 v4 v5 v6 v7),.bool (.sym (reB (pE v0 v1 v2 v3 v4 v5 v6 v7))))
 | _,_=>none
theorem sq2_ok (args:List SV) (l:List (Nat×Reg)) (p:Ob) (v:SV) (h:rSq2 args l=some (p,v)) (hp:p.ok):∃U,execF cxSq2 U Tryz.f52 64 args (memL l) fun v' _=>v'=v:=by
 unfold rSq2 at h
 split at h
 ·rename_i v0 v1 v2 v3 v4 v5 v6 v7
  simp only[Option.some.injEq,Prod.mk.injEq]at h
  obtain ⟨rfl,rfl⟩:=h
  have h1:Pr v0 v1 v2 v3 v4 v5 v6 v7:=hp
  refine ⟨u9,?_⟩
  rw[vc_sq2 v0 v1 v2 v3 v4 v5 v6 v7 fun v'=>v'=_,B4_eq,B4_eq]
  exact ⟨h1,rfl⟩
 ·cases h
def cSq2:Rd Tryz.prog:=mkR mixed 52 Tryz.func52 (by decide) (by kernel_rfl) [] [.num,.val] rSq2 sq2_ok
theorem tw2_walk {P:SV→Prop} (hP:P (agE twE)):execF cxSq2 u9 Tryz.f20 64 [] (memL []) fun v _=>P v:=by
 rw[vc_tw2]
 simp only[↓L4_eq,↓B4_eq]
 refine ⟨by decide,by decide +kernel,⟨by decide +kernel,by decide +kernel⟩,?_⟩
 have e:emul (pE 3 0 0 0 0 0 0 0) (pE 10248034424649399249 11642518631491469716 5821525583728107135 3359425159480910763 2231142630478688288 17445674527600163279 1484426864484061071 2338840300904431544)=twE:=F2.eq (by decide +kernel) (by decide +kernel)
 rw[e]
 exact hP
def rTw2:R0:=fun args l=>
 match args,l with
 | [],[]=>some (none,agE twE)
 | _,_=>none
theorem tw2_ok (args:List SV) (l:List (Nat×Reg)) (p:Ob) (v:SV) (h:rTw2 args l=some (p,v)) (_:p.ok):∃U,execF cxSq2 U Tryz.f20 64 args (memL l) fun v' _=>v'=v:=by
 unfold rTw2 at h
 split at h
 ·simp only[Option.some.injEq,Prod.mk.injEq]at h
  obtain ⟨rfl,rfl⟩:=h
  exact ⟨u9,tw2_walk rfl⟩
 ·cases h
def cTw2:Rd Tryz.prog:=mkR mixed 20 Tryz.func20 (by decide) (by kernel_rfl) [] [] rTw2 tw2_ok
def liNo:LI:= { ι:=Nat,keep:= [],keepR:= [],F:=fun _=>⟨[],[]⟩,I:=fun _ _=>False,μ:=fun _=>0,k:=0 }
def uSt:Nat→Lp:=fun _=> .peel liNo
def cxSt2:Cx Tryz.prog:= { rds:= [cOn2,cSbe2,cCv2,cMle2,cIne2,cSq2],efs:= [],eqs:= [eq43] }
theorem cvE_ok (x b:F2):(cvE x b).ok:=eadd_ok _ _
theorem pE_cvE (p q:F2):pE (lm (F2.a (cvE p q)) 0) (lm (F2.a (cvE p q)) 1) (lm (F2.a (cvE p q)) 2) (lm (F2.a (cvE p q)) 3) (lm (F2.b (cvE p q)) 0) (lm (F2.b (cvE p q)) 1) (lm (F2.b (cvE p q)) 2) (lm (F2.b (cvE p q)) 3)=cvE p q:=pE_l (cvE_ok _ _)
theorem Pr_cvE (p q:F2):Pr (lm (F2.a (cvE p q)) 0) (lm (F2.a (cvE p q)) 1) (lm (F2.a (cvE p q)) 2) (lm (F2.a (cvE p q)) 3) (lm (F2.b (cvE p q)) 0) (lm (F2.b (cvE p q)) 1) (lm (F2.b (cvE p q)) 2) (lm (F2.b (cvE p q)) 3)=True:=Pr_l (cvE_ok _ _)
theorem vc_st2 (v0 v1 v2 v3 v4 v5 v6 v7:Int) (P:SV→Prop):(execF cxSt2 uSt Tryz.f47 64 [.agg [.int .u64 (.sym v0),.int .u64 (.sym v1),.int .u64
 (.sym v2),.int .u64 (.sym v3),.int .u64 (.sym v4),.int .u64 (.sym v5),.int .u64 (.sym v6),.int .u64 (.sym v7)],.bool (.lit false)] (memL []) fun v _=>P v)=
 ((((0:Int)≤1)∧((1:Int)<18446744073709551616))∧(B4 1 0 0 0 fun x0 x1 x2 x3=>B4 0 0 0 0 fun x4 x5 x6 x7=>((((0:Int)≤1)∧((1:Int)<18446744073709551616))
 ∧(B4 1 0 0 0 fun x8 x9 x10 x11=>B4 0 0 0 0 fun x12 x13 x14 x15=>(((Pr 0 0 0 0 0 0 0 0)∧(Pr x8 x9 x10 x11 x12 x13 x14 x15))∧(L4 (F2.a (esub (pE 0 0 0 0 0 0 0 0)
 (pE x8 x9 x10 x11 x12 x13 x14 x15))) fun x16 x17 x18 x19=>L4 (F2.b (esub (pE 0 0 0 0 0 0 0 0) (pE x8 x9 x10 x11 x12 x13 x14 x15))) fun x20 x21 x22 x23=>B4 x0 x1 x2 x3 fun x24 x25 x26 x27=>B4 x4 x5 x6 x7 fun x28 x29 x30 x31=>B4 x24 x25 x26 x27 fun x32 x33 x34 x35=>B4 x28 x29 x30 x31 fun x36 x37 x38 x39=>B4 v0 v1 v2 v3 fun x40 x41 x42 x43=>B4 v4 v5 v6 v7 fun x44 x45 x46 x47=>
 (((Pr x32 x33 x34 x35 x36 x37 x38 x39)∧(Pr x40 x41 x42 x43 x44 x45 x46 x47))∧(L4 (F2.a (cvE (pE x32 x33 x34 x35 x36 x37 x38 x39) (pE x40 x41 x42 x43 x44 x45 x46 x47))) fun x48 x49 x50 x51=>L4
 (F2.b (cvE (pE x32 x33 x34 x35 x36 x37 x38 x39) (pE x40 x41 x42 x43 x44 x45 x46 x47))) fun x52 x53 x54 x55=>B4 x48 x49 x50 x51 fun x56 x57 x58 x59=>B4 x52 x53 x54 x55 fun x60 x61 x62 x63=>
 ((((decide ([x56,x57,x58,x59,x60,x61,x62,x63]= [0,0,0,0,0,0,0,0]))=Bool.true)→((∃(i064:Nat),(False∧True))∧(Nat→(False→False))))
 ∧(((decide ([x56,x57,x58,x59,x60,x61,x62,x63]= [0,0,0,0,0,0,0,0]))=Bool.false)→((((0:Int)≤3)∧((3:Int)<18446744073709551616))
 ∧(B4 3 0 0 0 fun x65 x66 x67 x68=>B4 0 0 0 0 fun x69 x70 x71 x72=>B4 x24 x25 x26 x27 fun x73 x74 x75 x76=>B4 x28 x29 x30 x31 fun x77 x78 x79 x80=>B4 x24 x25 x26 x27 fun x81 x82 x83 x84=>B4 x28 x29 x30 x31 fun x85 x86 x87 x88=>
 (((Pr x73 x74 x75 x76 x77 x78 x79 x80)∧(Pr x81 x82 x83 x84 x85 x86 x87 x88))∧(L4 (F2.a (emul (pE x73 x74 x75 x76 x77 x78 x79 x80) (pE x81 x82 x83 x84 x85 x86 x87 x88))) fun x89 x90 x91 x92=>L4
 (F2.b (emul (pE x73 x74 x75 x76 x77 x78 x79 x80) (pE x81 x82 x83 x84 x85 x86 x87 x88))) fun x93 x94 x95 x96=>(((Pr x65 x66 x67 x68 x69 x70 x71 x72)
 ∧(Pr x89 x90 x91 x92 x93 x94 x95 x96))∧(L4 (F2.a (emul (pE x65 x66 x67 x68 x69 x70 x71 x72) (pE x89 x90 x91 x92 x93 x94 x95 x96))) fun x97 x98 x99 x100=>L4
 (F2.b (emul (pE x65 x66 x67 x68 x69 x70 x71 x72) (pE x89 x90 x91 x92 x93 x94 x95 x96))) fun x101 x102 x103 x104=>((((0:Int)≤4)∧((4:Int)<18446744073709551616))
 ∧(B4 4 0 0 0 fun x105 x106 x107 x108=>B4 0 0 0 0 fun x109 x110 x111 x112=>B4 x48 x49 x50 x51 fun x113 x114 x115 x116=>B4 x52 x53 x54 x55 fun x117 x118 x119 x120=>
 (((Pr x105 x106 x107 x108 x109 x110 x111 x112)∧(Pr x113 x114 x115 x116 x117 x118 x119 x120))∧(L4 (F2.a (emul (pE x105 x106 x107 x108 x109 x110 x111 x112)
 (pE x113 x114 x115 x116 x117 x118 x119 x120))) fun x121 x122 x123 x124=>L4 (F2.b (emul (pE x105 x106 x107 x108 x109 x110 x111 x112) (pE x113 x114 x115 x116 x117 x118 x119 x120))) fun x125 x126 x127 x128=>
 ((Pr x121 x122 x123 x124 x125 x126 x127 x128)∧(L4 (F2.a (einv (pE x121 x122 x123 x124 x125 x126 x127 x128))) fun x129 x130 x131 x132=>L4 (F2.b (einv
 (pE x121 x122 x123 x124 x125 x126 x127 x128))) fun x133 x134 x135 x136=>(((Pr x97 x98 x99 x100 x101 x102 x103 x104)∧(Pr x129 x130 x131 x132 x133 x134 x135 x136))
 ∧(L4 (F2.a (emul (pE x97 x98 x99 x100 x101 x102 x103 x104) (pE x129 x130 x131 x132 x133 x134 x135 x136))) fun x137 x138 x139 x140=>L4 (F2.b (emul (pE x97 x98 x99 x100 x101 x102 x103 x104)
 (pE x129 x130 x131 x132 x133 x134 x135 x136))) fun x141 x142 x143 x144=>(((Pr 0 0 0 0 0 0 0 0)∧(Pr x137 x138 x139 x140 x141 x142 x143 x144))∧(L4
 (F2.a (esub (pE 0 0 0 0 0 0 0 0) (pE x137 x138 x139 x140 x141 x142 x143 x144))) fun x145 x146 x147 x148=>L4 (F2.b (esub (pE 0 0 0 0 0 0 0 0) (pE x137 x138 x139 x140 x141 x142 x143 x144))) fun x149 x150 x151 x152=>B4 x24 x25 x26 x27 fun x153 x154 x155 x156=>B4 x28 x29 x30 x31 fun x157 x158 x159 x160=>
 (((Pr 0 0 0 0 0 0 0 0)∧(Pr x153 x154 x155 x156 x157 x158 x159 x160))∧(L4 (F2.a (esub (pE 0 0 0 0 0 0 0 0) (pE x153 x154 x155 x156 x157 x158 x159 x160))) fun x161 x162 x163 x164=>L4
 (F2.b (esub (pE 0 0 0 0 0 0 0 0) (pE x153 x154 x155 x156 x157 x158 x159 x160))) fun x165 x166 x167 x168=>((((0:Int)≤2)∧((2:Int)<18446744073709551616))
 ∧(B4 2 0 0 0 fun x169 x170 x171 x172=>B4 0 0 0 0 fun x173 x174 x175 x176=>((Pr x169 x170 x171 x172 x173 x174 x175 x176)∧(L4 (F2.a (einv (pE x169 x170 x171 x172 x173 x174 x175 x176))) fun x177 x178 x179 x180=>L4
 (F2.b (einv (pE x169 x170 x171 x172 x173 x174 x175 x176))) fun x181 x182 x183 x184=>(((Pr x161 x162 x163 x164 x165 x166 x167 x168)∧(Pr x177 x178 x179 x180 x181 x182 x183 x184))
 ∧(L4 (F2.a (emul (pE x161 x162 x163 x164 x165 x166 x167 x168) (pE x177 x178 x179 x180 x181 x182 x183 x184))) fun x185 x186 x187 x188=>L4 (F2.b (emul
 (pE x161 x162 x163 x164 x165 x166 x167 x168) (pE x177 x178 x179 x180 x181 x182 x183 x184))) fun x189 x190 x191 x192=>B4 v0 v1 v2 v3 fun x193 x194 x195 x196=>B4 v4 v5 v6 v7 fun x197 x198 x199 x200=>
 (((Pr x185 x186 x187 x188 x189 x190 x191 x192)∧(Pr x193 x194 x195 x196 x197 x198 x199 x200))∧(L4 (F2.a (cvE (pE x185 x186 x187 x188 x189 x190 x191 x192)
 (pE x193 x194 x195 x196 x197 x198 x199 x200))) fun x201 x202 x203 x204=>L4 (F2.b (cvE (pE x185 x186 x187 x188 x189 x190 x191 x192) (pE x193 x194 x195 x196 x197 x198 x199 x200))) fun x205 x206 x207 x208=>B4 x145 x146 x147 x148 fun x209 x210 x211 x212=>B4 x149 x150 x151 x152 fun x213 x214 x215 x216=>
 ((((Bool.not (decide ([x209,x210,x211,x212,x213,x214,x215,x216]= [0,0,0,0,0,0,0,0])))=Bool.true)→(B4 x145 x146 x147 x148 fun x217 x218 x219 x220=>B4 x149 x150 x151 x152 fun x221 x222 x223 x224=>
 ((Pr x217 x218 x219 x220 x221 x222 x223 x224)∧((((reB (pE x217 x218 x219 x220 x221 x222 x223 x224))=Bool.true)→(B4 x48 x49 x50 x51 fun x225 x226 x227 x228=>B4 x52 x53 x54 x55 fun x229 x230 x231 x232=>
 ((Pr x225 x226 x227 x228 x229 x230 x231 x232)∧((((reB (pE x225 x226 x227 x228 x229 x230 x231 x232))=Bool.true)→(B4 x24 x25 x26 x27 fun x233 x234 x235 x236=>B4 x28 x29 x30 x31 fun x237 x238 x239 x240=>
 (P (SV.agg [(U x233),(U x234),(U x235),(U x236),(U x237),(U x238),(U x239),(U x240)]))))∧(((reB (pE x225 x226 x227 x228 x229 x230 x231 x232))=Bool.false)
 →(B4 x201 x202 x203 x204 fun x241 x242 x243 x244=>B4 x205 x206 x207 x208 fun x245 x246 x247 x248=>((Pr x241 x242 x243 x244 x245 x246 x247 x248)∧
 ((((reB (pE x241 x242 x243 x244 x245 x246 x247 x248))=Bool.true)→(B4 x24 x25 x26 x27 fun x249 x250 x251 x252=>B4 x28 x29 x30 x31 fun x253 x254 x255 x256=>
 (P (SV.agg [(U x249),(U x250),(U x251),(U x252),(U x253),(U x254),(U x255),(U x256)]))))∧(((reB (pE x241 x242 x243 x244 x245 x246 x247 x248))=Bool.false)
 →((∃(i0257:Nat),(False∧True))∧(Nat→(False→False))))))))))))∧(((reB (pE x217 x218 x219 x220 x221 x222 x223 x224))=Bool.false)→((∃(i0258:Nat),
 (False∧True))∧(Nat→(False→False))))))))∧(((Bool.not (decide ([x209,x210,x211,x212,x213,x214,x215,x216]= [0,0,0,0,0,0,0,0])))=Bool.false)
 →((∃(i0259:Nat),(False∧True))∧(Nat→(False→False))))))))))))))))))))))))))))))))))))))))):=by kernel_rfl
theorem st2_walk {v0 v1 v2 v3 v4 v5 v6 v7:Int} {P:SV→Prop} (hp:Wp v0 v1 v2 v3 v4 v5 v6 v7 twE) (hP:P (agE oneE)):
  execF cxSt2 uSt Tryz.f47 64 [.agg [.int .u64 (.sym v0),.int .u64 (.sym v1),.int .u64 (.sym v2),.int .u64 (.sym v3),.int .u64 (.sym v4),.int .u64 (.sym v5),.int .u64 (.sym v6),.int .u64 (.sym v7)],.bool (.lit false)] (memL []) fun v _=>P v:=by
 rw[vc_st2]
 have e1:pE v0 v1 v2 v3 v4 v5 v6 v7=twE:=hp.num
 have e2:Pr v0 v1 v2 v3 v4 v5 v6 v7=True:=eq_true hp.pr
 simp only[↓L4_eq,↓B4_eq,e1,e2,pE_emul,Pr_emul,pE_esub,Pr_esub,pE_einv,Pr_einv,pE_cvE,Pr_cvE,and_true,true_and]
 have f:P (.agg [U 1,U 0,U 0,U 0,U 0,U 0,U 0,U 0]):=hP
 repeat' first
  | exact f
  | refine ⟨by decide +kernel,?_⟩
  | refine ⟨fun _=> ?_,fun h=>absurd h (by decide +kernel)⟩
  | refine ⟨fun h=>absurd h (by decide +kernel),fun _=> ?_⟩
def rSt2:R0:=fun args l=>
 match args,l with
 | [.agg [.int .u64 (.sym v0),.int .u64 (.sym v1),.int .u64 (.sym v2),.int .u64 (.sym v3),.int .u64 (.sym v4),.int .u64 (.sym v5),.int .u64 (.sym v6),.int .u64 (.sym v7)],.bool (.lit false)],[]=>some (some (Pr v0 v1 v2 v3 v4 v5 v6 v7∧pE v0 v1 v2 v3 v4 v5 v6 v7=twE),agE oneE)
 | _,_=>none
theorem st2_ok (args:List SV) (l:List (Nat×Reg)) (p:Ob) (v:SV) (h:rSt2 args l=some (p,v)) (hp:p.ok):∃U,execF cxSt2 U Tryz.f47 64 args (memL l) fun v' _=>v'=v:=by
 unfold rSt2 at h
 split at h
 ·rename_i v0 v1 v2 v3 v4 v5 v6 v7
  simp only[Option.some.injEq,Prod.mk.injEq]at h
  obtain ⟨rfl,rfl⟩:=h
  obtain ⟨h1,h2⟩:=(show Pr v0 v1 v2 v3 v4 v5 v6 v7∧pE v0 v1 v2 v3 v4 v5 v6 v7=twE from hp)
  have w:=h1.wp
  rw[h2]at w
  exact ⟨uSt,st2_walk w rfl⟩
 ·cases h
def cSt2:Rd Tryz.prog:=mkR mixed 47 Tryz.func47 (by decide) (by kernel_rfl) [] [.num,.val] rSt2 st2_ok
def cxMp2:Cx Tryz.prog:= { rds:= [cSt2,cOn2,cSbe2,cAde2,cCv2,cMle2,cIne2,cRe2,cSge2,cSq2],efs:= [],eqs:= [eq43] }
def MpY (P:SV→Prop) (x0 x1 x2 x3 x4 x5 x6 x7 u0 u1 u2 u3 u4 u5 u6 u7 v0 v1 v2 v3 v4 v5 v6 v7:Int):Prop:=
 B4 x0 x1 x2 x3 fun y0 y1 y2 y3=>B4 x4 x5 x6 x7 fun y4 y5 y6 y7=>B4 v0 v1 v2 v3 fun y8 y9 y10 y11=>B4 v4 v5 v6 v7 fun y12 y13 y14 y15=>(Pr y0 y1 y2 y3 y4 y5 y6 y7∧Pr y8 y9 y10 y11 y12 y13 y14 y15)∧L4 (F2.a (cvE (pE y0 y1 y2 y3 y4 y5 y6 y7) (pE y8 y9 y10 y11 y12 y13 y14 y15))) fun y16 y17 y18 y19=>L4 (F2.b (cvE (pE y0 y1 y2 y3 y4 y5 y6 y7) (pE y8 y9 y10 y11 y12 y13 y14 y15))) fun y20 y21 y22 y23=>(Pr y16 y17 y18 y19 y20 y21 y22 y23)∧L4 (F2.a (reV (pE y16 y17 y18 y19 y20 y21 y22 y23))) fun y24 y25 y26 y27=>L4 (F2.b (reV (pE y16 y17 y18 y19 y20 y21 y22 y23))) fun y28 y29 y30 y31=>(W4 y24 y25 y26 y27∧W4 y28 y29 y30 y31)∧B1 ((esg (pE y24 y25 y26 y27 y28 y29 y30 y31):Nat):Int) fun y32=>B4 u0 u1 u2 u3 fun y33 y34 y35 y36=>B4 u4 u5 u6 u7 fun y37 y38 y39 y40=>(W4 y33 y34 y35 y36∧W4 y37 y38 y39 y40)∧B1 ((esg (pE y33 y34 y35 y36 y37 y38 y39 y40):Nat):Int) fun y41=>((y32 !=y41)=true→L4 (F2.a (reV (pE y16 y17 y18 y19 y20 y21 y22 y23))) fun y42 y43 y44 y45=>L4 (F2.b (reV (pE y16 y17 y18 y19 y20 y21 y22 y23))) fun y46 y47 y48 y49=>(Pr 0 0 0 0 0 0 0 0∧Pr y42 y43 y44 y45 y46 y47 y48 y49)∧L4 (F2.a (esub (pE 0 0 0 0 0 0 0 0) (pE y42 y43 y44 y45 y46 y47 y48 y49))) fun y50 y51 y52 y53=>L4 (F2.b (esub (pE 0 0 0 0 0 0 0 0) (pE y42 y43 y44 y45 y46 y47 y48 y49))) fun y54 y55 y56 y57=>B4 x0 x1 x2 x3 fun y58 y59 y60 y61=>B4 x4 x5 x6 x7 fun y62 y63 y64 y65=>B4 y50 y51 y52 y53 fun y66 y67 y68 y69=>B4 y54 y55 y56 y57 fun y70 y71 y72 y73=>P (.agg [U y58,U y59,U y60,U y61,U y62,U y63,U y64,U y65,U y66,U y67,U y68,U y69,U y70,U y71,U y72,U y73]))∧((y32 !=y41)=false→B4 x0 x1 x2 x3 fun y74 y75 y76 y77=>B4 x4 x5 x6 x7 fun y78 y79 y80 y81=>L4 (F2.a (reV (pE y16 y17 y18 y19 y20 y21 y22 y23))) fun y82 y83 y84 y85=>L4 (F2.b (reV (pE y16 y17 y18 y19 y20 y21 y22 y23))) fun y86 y87 y88 y89=>P (.agg [U y74,U y75,U y76,U y77,U y78,U y79,U y80,U y81,U y82,U y83,U y84,U y85,U y86,U y87,U y88,U y89]))
def MpX (P:SV→Prop) (x0 x1 x2 x3 x4 x5 x6 x7 m0 m1 m2 m3 m4 m5 m6 m7 i0 i1 i2 i3 i4 i5 i6 i7 f0 f1 f2 f3 f4 f5 f6 f7 z0 z1 z2 z3 z4 z5 z6 z7 u0 u1 u2 u3 u4 u5 u6 u7 v0 v1 v2 v3 v4 v5 v6 v7:Int):Prop:=
 B4 x0 x1 x2 x3 fun y90 y91 y92 y93=>B4 x4 x5 x6 x7 fun y94 y95 y96 y97=>B4 v0 v1 v2 v3 fun y98 y99 y100 y101=>B4 v4 v5 v6 v7 fun y102 y103 y104 y105=>(Pr y90 y91 y92 y93 y94 y95 y96 y97∧Pr y98 y99 y100 y101 y102 y103 y104 y105)∧L4 (F2.a (cvE (pE y90 y91 y92 y93 y94 y95 y96 y97) (pE y98 y99 y100 y101 y102 y103 y104 y105))) fun y106 y107 y108 y109=>L4 (F2.b (cvE (pE y90 y91 y92 y93 y94 y95 y96 y97) (pE y98 y99 y100 y101 y102 y103 y104 y105))) fun y110 y111 y112 y113=>(Pr y106 y107 y108 y109 y110 y111 y112 y113)∧((!(reB (pE y106 y107 y108 y109 y110 y111 y112 y113)))=true→B4 m0 m1 m2 m3 fun y114 y115 y116 y117=>B4 m4 m5 m6 m7 fun y118 y119 y120 y121=>B4 m0 m1 m2 m3 fun y122 y123 y124 y125=>B4 m4 m5 m6 m7 fun y126 y127 y128 y129=>(Pr y114 y115 y116 y117 y118 y119 y120 y121∧Pr y122 y123 y124 y125 y126 y127 y128 y129)∧L4 (F2.a (emul (pE y114 y115 y116 y117 y118 y119 y120 y121) (pE y122 y123 y124 y125 y126 y127 y128 y129))) fun y130 y131 y132 y133=>L4 (F2.b (emul (pE y114 y115 y116 y117 y118 y119 y120 y121) (pE y122 y123 y124 y125 y126 y127 y128 y129))) fun y134 y135 y136 y137=>B4 i0 i1 i2 i3 fun y138 y139 y140 y141=>B4 i4 i5 i6 i7 fun y142 y143 y144 y145=>(Pr y130 y131 y132 y133 y134 y135 y136 y137∧Pr y138 y139 y140 y141 y142 y143 y144 y145)∧L4 (F2.a (emul (pE y130 y131 y132 y133 y134 y135 y136 y137) (pE y138 y139 y140 y141 y142 y143 y144 y145))) fun y146 y147 y148 y149=>L4 (F2.b (emul (pE y130 y131 y132 y133 y134 y135 y136 y137) (pE y138 y139 y140 y141 y142 y143 y144 y145))) fun y150 y151 y152 y153=>B4 y146 y147 y148 y149 fun y154 y155 y156 y157=>B4 y150 y151 y152 y153 fun y158 y159 y160 y161=>B4 y146 y147 y148 y149 fun y162 y163 y164 y165=>B4 y150 y151 y152 y153 fun y166 y167 y168 y169=>(Pr y154 y155 y156 y157 y158 y159 y160 y161∧Pr y162 y163 y164 y165 y166 y167 y168 y169)∧L4 (F2.a (emul (pE y154 y155 y156 y157 y158 y159 y160 y161) (pE y162 y163 y164 y165 y166 y167 y168 y169))) fun y170 y171 y172 y173=>L4 (F2.b (emul (pE y154 y155 y156 y157 y158 y159 y160 y161) (pE y162 y163 y164 y165 y166 y167 y168 y169))) fun y174 y175 y176 y177=>B4 f0 f1 f2 f3 fun y178 y179 y180 y181=>B4 f4 f5 f6 f7 fun y182 y183 y184 y185=>(Pr y170 y171 y172 y173 y174 y175 y176 y177∧Pr y178 y179 y180 y181 y182 y183 y184 y185)∧L4 (F2.a (emul (pE y170 y171 y172 y173 y174 y175 y176 y177) (pE y178 y179 y180 y181 y182 y183 y184 y185))) fun y186 y187 y188 y189=>L4 (F2.b (emul (pE y170 y171 y172 y173 y174 y175 y176 y177) (pE y178 y179 y180 y181 y182 y183 y184 y185))) fun y190 y191 y192 y193=>B4 z0 z1 z2 z3 fun y194 y195 y196 y197=>B4 z4 z5 z6 z7 fun y198 y199 y200 y201=>(Pr y186 y187 y188 y189 y190 y191 y192 y193∧Pr y194 y195 y196 y197 y198 y199 y200 y201)∧L4 (F2.a (eadd (pE y186 y187 y188 y189 y190 y191 y192 y193) (pE y194 y195 y196 y197 y198 y199 y200 y201))) fun y202 y203 y204 y205=>L4 (F2.b (eadd (pE y186 y187 y188 y189 y190 y191 y192 y193) (pE y194 y195 y196 y197 y198 y199 y200 y201))) fun y206 y207 y208 y209=>MpY P y202 y203 y204 y205 y206 y207 y208 y209 u0 u1 u2 u3 u4 u5 u6 u7 v0 v1 v2 v3 v4 v5 v6 v7)∧((!(reB (pE y106 y107 y108 y109 y110 y111 y112 y113)))=false→MpY P x0 x1 x2 x3 x4 x5 x6 x7 u0 u1 u2 u3 u4 u5 u6 u7 v0 v1 v2 v3 v4 v5 v6 v7)
def MpR (P:SV→Prop) (c0 c1 c2 c3 c4 c5 c6 c7 z0 z1 z2 z3 z4 z5 z6 z7 g0 g1 g2 g3 g4 g5 g6 g7 k0 k1 k2 k3 k4 k5 k6 k7 u0 u1 u2 u3 u4 u5 u6 u7 v0 v1 v2 v3 v4 v5 v6 v7:Int):Prop:=
 ((0:Int)≤4∧(4:Int)<18446744073709551616)∧B4 4 0 0 0 fun y210 y211 y212 y213=>B4 0 0 0 0 fun y214 y215 y216 y217=>B4 g0 g1 g2 g3 fun y218 y219 y220 y221=>B4 g4 g5 g6 g7 fun y222 y223 y224 y225=>(Pr y210 y211 y212 y213 y214 y215 y216 y217∧Pr y218 y219 y220 y221 y222 y223 y224 y225)∧L4 (F2.a (emul (pE y210 y211 y212 y213 y214 y215 y216 y217) (pE y218 y219 y220 y221 y222 y223 y224 y225))) fun y226 y227 y228 y229=>L4 (F2.b (emul (pE y210 y211 y212 y213 y214 y215 y216 y217) (pE y218 y219 y220 y221 y222 y223 y224 y225))) fun y230 y231 y232 y233=>B4 k0 k1 k2 k3 fun y234 y235 y236 y237=>B4 k4 k5 k6 k7 fun y238 y239 y240 y241=>(Pr y234 y235 y236 y237 y238 y239 y240 y241)∧L4 (F2.a (einv (pE y234 y235 y236 y237 y238 y239 y240 y241))) fun y242 y243 y244 y245=>L4 (F2.b (einv (pE y234 y235 y236 y237 y238 y239 y240 y241))) fun y246 y247 y248 y249=>(Pr y226 y227 y228 y229 y230 y231 y232 y233∧Pr y242 y243 y244 y245 y246 y247 y248 y249)∧L4 (F2.a (emul (pE y226 y227 y228 y229 y230 y231 y232 y233) (pE y242 y243 y244 y245 y246 y247 y248 y249))) fun y250 y251 y252 y253=>L4 (F2.b (emul (pE y226 y227 y228 y229 y230 y231 y232 y233) (pE y242 y243 y244 y245 y246 y247 y248 y249))) fun y254 y255 y256 y257=>(Pr 0 0 0 0 0 0 0 0∧Pr y250 y251 y252 y253 y254 y255 y256 y257)∧L4 (F2.a (esub (pE 0 0 0 0 0 0 0 0) (pE y250 y251 y252 y253 y254 y255 y256 y257))) fun y258 y259 y260 y261=>L4 (F2.b (esub (pE 0 0 0 0 0 0 0 0) (pE y250 y251 y252 y253 y254 y255 y256 y257))) fun y262 y263 y264 y265=>B4 z0 z1 z2 z3 fun y266 y267 y268 y269=>B4 z4 z5 z6 z7 fun y270 y271 y272 y273=>(Pr 0 0 0 0 0 0 0 0∧Pr y266 y267 y268 y269 y270 y271 y272 y273)∧L4 (F2.a (esub (pE 0 0 0 0 0 0 0 0) (pE y266 y267 y268 y269 y270 y271 y272 y273))) fun y274 y275 y276 y277=>L4 (F2.b (esub (pE 0 0 0 0 0 0 0 0) (pE y266 y267 y268 y269 y270 y271 y272 y273))) fun y278 y279 y280 y281=>((0:Int)≤2∧(2:Int)<18446744073709551616)∧B4 2 0 0 0 fun y282 y283 y284 y285=>B4 0 0 0 0 fun y286 y287 y288 y289=>(Pr y282 y283 y284 y285 y286 y287 y288 y289)∧L4 (F2.a (einv (pE y282 y283 y284 y285 y286 y287 y288 y289))) fun y290 y291 y292 y293=>L4 (F2.b (einv (pE y282 y283 y284 y285 y286 y287 y288 y289))) fun y294 y295 y296 y297=>(Pr y274 y275 y276 y277 y278 y279 y280 y281∧Pr y290 y291 y292 y293 y294 y295 y296 y297)∧L4 (F2.a (emul (pE y274 y275 y276 y277 y278 y279 y280 y281) (pE y290 y291 y292 y293 y294 y295 y296 y297))) fun y298 y299 y300 y301=>L4 (F2.b (emul (pE y274 y275 y276 y277 y278 y279 y280 y281) (pE y290 y291 y292 y293 y294 y295 y296 y297))) fun y302 y303 y304 y305=>B4 u0 u1 u2 u3 fun y306 y307 y308 y309=>B4 u4 u5 u6 u7 fun y310 y311 y312 y313=>B4 u0 u1 u2 u3 fun y314 y315 y316 y317=>B4 u4 u5 u6 u7 fun y318 y319 y320 y321=>(Pr y306 y307 y308 y309 y310 y311 y312 y313∧Pr y314 y315 y316 y317 y318 y319 y320 y321)∧L4 (F2.a (emul (pE y306 y307 y308 y309 y310 y311 y312 y313) (pE y314 y315 y316 y317 y318 y319 y320 y321))) fun y322 y323 y324 y325=>L4 (F2.b (emul (pE y306 y307 y308 y309 y310 y311 y312 y313) (pE y314 y315 y316 y317 y318 y319 y320 y321))) fun y326 y327 y328 y329=>B4 g0 g1 g2 g3 fun y330 y331 y332 y333=>B4 g4 g5 g6 g7 fun y334 y335 y336 y337=>(Pr y322 y323 y324 y325 y326 y327 y328 y329∧Pr y330 y331 y332 y333 y334 y335 y336 y337)∧L4 (F2.a (emul (pE y322 y323 y324 y325 y326 y327 y328 y329) (pE y330 y331 y332 y333 y334 y335 y336 y337))) fun y338 y339 y340 y341=>L4 (F2.b (emul (pE y322 y323 y324 y325 y326 y327 y328 y329) (pE y330 y331 y332 y333 y334 y335 y336 y337))) fun y342 y343 y344 y345=>((0:Int)≤1∧(1:Int)<18446744073709551616)∧B4 1 0 0 0 fun y346 y347 y348 y349=>B4 0 0 0 0 fun y350 y351 y352 y353=>B4 y338 y339 y340 y341 fun y354 y355 y356 y357=>B4 y342 y343 y344 y345 fun y358 y359 y360 y361=>(Pr y346 y347 y348 y349 y350 y351 y352 y353∧Pr y354 y355 y356 y357 y358 y359 y360 y361)∧L4 (F2.a (eadd (pE y346 y347 y348 y349 y350 y351 y352 y353) (pE y354 y355 y356 y357 y358 y359 y360 y361))) fun y362 y363 y364 y365=>L4 (F2.b (eadd (pE y346 y347 y348 y349 y350 y351 y352 y353) (pE y354 y355 y356 y357 y358 y359 y360 y361))) fun y366 y367 y368 y369=>((0:Int)≤1∧(1:Int)<18446744073709551616)∧B4 1 0 0 0 fun y370 y371 y372 y373=>B4 0 0 0 0 fun y374 y375 y376 y377=>B4 y338 y339 y340 y341 fun y378 y379 y380 y381=>B4 y342 y343 y344 y345 fun y382 y383 y384 y385=>(Pr y370 y371 y372 y373 y374 y375 y376 y377∧Pr y378 y379 y380 y381 y382 y383 y384 y385)∧L4 (F2.a (esub (pE y370 y371 y372 y373 y374 y375 y376 y377) (pE y378 y379 y380 y381 y382 y383 y384 y385))) fun y386 y387 y388 y389=>L4 (F2.b (esub (pE y370 y371 y372 y373 y374 y375 y376 y377) (pE y378 y379 y380 y381 y382 y383 y384 y385))) fun y390 y391 y392 y393=>B4 y386 y387 y388 y389 fun y394 y395 y396 y397=>B4 y390 y391 y392 y393 fun y398 y399 y400 y401=>B4 y362 y363 y364 y365 fun y402 y403 y404 y405=>B4 y366 y367 y368 y369 fun y406 y407 y408 y409=>(Pr y394 y395 y396 y397 y398 y399 y400 y401∧Pr y402 y403 y404 y405 y406 y407 y408 y409)∧L4 (F2.a (emul (pE y394 y395 y396 y397 y398 y399 y400 y401) (pE y402 y403 y404 y405 y406 y407 y408 y409))) fun y410 y411 y412 y413=>L4 (F2.b (emul (pE y394 y395 y396 y397 y398 y399 y400 y401) (pE y402 y403 y404 y405 y406 y407 y408 y409))) fun y414 y415 y416 y417=>(Pr y410 y411 y412 y413 y414 y415 y416 y417)∧L4 (F2.a (einv (pE y410 y411 y412 y413 y414 y415 y416 y417))) fun y418 y419 y420 y421=>L4 (F2.b (einv (pE y410 y411 y412 y413 y414 y415 y416 y417))) fun y422 y423 y424 y425=>B4 u0 u1 u2 u3 fun y426 y427 y428 y429=>B4 u4 u5 u6 u7 fun y430 y431 y432 y433=>B4 y386 y387 y388 y389 fun y434 y435 y436 y437=>B4 y390 y391 y392 y393 fun y438 y439 y440 y441=>(Pr y426 y427 y428 y429 y430 y431 y432 y433∧Pr y434 y435 y436 y437 y438 y439 y440 y441)∧L4 (F2.a (emul (pE y426 y427 y428 y429 y430 y431 y432 y433) (pE y434 y435 y436 y437 y438 y439 y440 y441))) fun y442 y443 y444 y445=>L4 (F2.b (emul (pE y426 y427 y428 y429 y430 y431 y432 y433) (pE y434 y435 y436 y437 y438 y439 y440 y441))) fun y446 y447 y448 y449=>B4 y418 y419 y420 y421 fun y450 y451 y452 y453=>B4 y422 y423 y424 y425 fun y454 y455 y456 y457=>(Pr y442 y443 y444 y445 y446 y447 y448 y449∧Pr y450 y451 y452 y453 y454 y455 y456 y457)∧L4 (F2.a (emul (pE y442 y443 y444 y445 y446 y447 y448 y449) (pE y450 y451 y452 y453 y454 y455 y456 y457))) fun y458 y459 y460 y461=>L4 (F2.b (emul (pE y442 y443 y444 y445 y446 y447 y448 y449) (pE y450 y451 y452 y453 y454 y455 y456 y457))) fun y462 y463 y464 y465=>B4 c0 c1 c2 c3 fun y466 y467 y468 y469=>B4 c4 c5 c6 c7 fun y470 y471 y472 y473=>(Pr y458 y459 y460 y461 y462 y463 y464 y465∧Pr y466 y467 y468 y469 y470 y471 y472 y473)∧L4 (F2.a (emul (pE y458 y459 y460 y461 y462 y463 y464 y465) (pE y466 y467 y468 y469 y470 y471 y472 y473))) fun y474 y475 y476 y477=>L4 (F2.b (emul (pE y458 y459 y460 y461 y462 y463 y464 y465) (pE y466 y467 y468 y469 y470 y471 y472 y473))) fun y478 y479 y480 y481=>B4 y298 y299 y300 y301 fun y482 y483 y484 y485=>B4 y302 y303 y304 y305 fun y486 y487 y488 y489=>B4 y474 y475 y476 y477 fun y490 y491 y492 y493=>B4 y478 y479 y480 y481 fun y494 y495 y496 y497=>(Pr y482 y483 y484 y485 y486 y487 y488 y489∧Pr y490 y491 y492 y493 y494 y495 y496 y497)∧L4 (F2.a (esub (pE y482 y483 y484 y485 y486 y487 y488 y489) (pE y490 y491 y492 y493 y494 y495 y496 y497))) fun y498 y499 y500 y501=>L4 (F2.b (esub (pE y482 y483 y484 y485 y486 y487 y488 y489) (pE y490 y491 y492 y493 y494 y495 y496 y497))) fun y502 y503 y504 y505=>B4 y498 y499 y500 y501 fun y506 y507 y508 y509=>B4 y502 y503 y504 y505 fun y510 y511 y512 y513=>B4 v0 v1 v2 v3 fun y514 y515 y516 y517=>B4 v4 v5 v6 v7 fun y518 y519 y520 y521=>(Pr y506 y507 y508 y509 y510 y511 y512 y513∧Pr y514 y515 y516 y517 y518 y519 y520 y521)∧L4 (F2.a (cvE (pE y506 y507 y508 y509 y510 y511 y512 y513) (pE y514 y515 y516 y517 y518 y519 y520 y521))) fun y522 y523 y524 y525=>L4 (F2.b (cvE (pE y506 y507 y508 y509 y510 y511 y512 y513) (pE y514 y515 y516 y517 y518 y519 y520 y521))) fun y526 y527 y528 y529=>(Pr y522 y523 y524 y525 y526 y527 y528 y529)∧((!(reB (pE y522 y523 y524 y525 y526 y527 y528 y529)))=true→B4 y298 y299 y300 y301 fun y530 y531 y532 y533=>B4 y302 y303 y304 y305 fun y534 y535 y536 y537=>B4 y474 y475 y476 y477 fun y538 y539 y540 y541=>B4 y478 y479 y480 y481 fun y542 y543 y544 y545=>(Pr y530 y531 y532 y533 y534 y535 y536 y537∧Pr y538 y539 y540 y541 y542 y543 y544 y545)∧L4 (F2.a (eadd (pE y530 y531 y532 y533 y534 y535 y536 y537) (pE y538 y539 y540 y541 y542 y543 y544 y545))) fun y546 y547 y548 y549=>L4 (F2.b (eadd (pE y530 y531 y532 y533 y534 y535 y536 y537) (pE y538 y539 y540 y541 y542 y543 y544 y545))) fun y550 y551 y552 y553=>MpX P y546 y547 y548 y549 y550 y551 y552 y553 y362 y363 y364 y365 y366 y367 y368 y369 y418 y419 y420 y421 y422 y423 y424 y425 y258 y259 y260 y261 y262 y263 y264 y265 z0 z1 z2 z3 z4 z5 z6 z7 u0 u1 u2 u3 u4 u5 u6 u7 v0 v1 v2 v3 v4 v5 v6 v7)∧((!(reB (pE y522 y523 y524 y525 y526 y527 y528 y529)))=false→MpX P y498 y499 y500 y501 y502 y503 y504 y505 y362 y363 y364 y365 y366 y367 y368 y369 y418 y419 y420 y421 y422 y423 y424 y425 y258 y259 y260 y261 y262 y263 y264 y265 z0 z1 z2 z3 z4 z5 z6 z7 u0 u1 u2 u3 u4 u5 u6 u7 v0 v1 v2 v3 v4 v5 v6 v7)
def Mp0 (P:SV→Prop) (u0 u1 u2 u3 u4 u5 u6 u7 v0 v1 v2 v3 v4 v5 v6 v7:Int):Prop:=
 B4 v0 v1 v2 v3 fun y554 y555 y556 y557=>B4 v4 v5 v6 v7 fun y558 y559 y560 y561=>(Pr y554 y555 y556 y557 y558 y559 y560 y561∧(pE y554 y555 y556 y557 y558 y559 y560 y561)=twE)∧B4 1 0 0 0 fun y562 y563 y564 y565=>B4 0 0 0 0 fun y566 y567 y568 y569=>B4 y562 y563 y564 y565 fun y570 y571 y572 y573=>B4 y566 y567 y568 y569 fun y574 y575 y576 y577=>B4 v0 v1 v2 v3 fun y578 y579 y580 y581=>B4 v4 v5 v6 v7 fun y582 y583 y584 y585=>(Pr y570 y571 y572 y573 y574 y575 y576 y577∧Pr y578 y579 y580 y581 y582 y583 y584 y585)∧L4 (F2.a (cvE (pE y570 y571 y572 y573 y574 y575 y576 y577) (pE y578 y579 y580 y581 y582 y583 y584 y585))) fun y586 y587 y588 y589=>L4 (F2.b (cvE (pE y570 y571 y572 y573 y574 y575 y576 y577) (pE y578 y579 y580 y581 y582 y583 y584 y585))) fun y590 y591 y592 y593=>((0:Int)≤3∧(3:Int)<18446744073709551616)∧B4 3 0 0 0 fun y594 y595 y596 y597=>B4 0 0 0 0 fun y598 y599 y600 y601=>B4 y562 y563 y564 y565 fun y602 y603 y604 y605=>B4 y566 y567 y568 y569 fun y606 y607 y608 y609=>B4 y562 y563 y564 y565 fun y610 y611 y612 y613=>B4 y566 y567 y568 y569 fun y614 y615 y616 y617=>(Pr y602 y603 y604 y605 y606 y607 y608 y609∧Pr y610 y611 y612 y613 y614 y615 y616 y617)∧L4 (F2.a (emul (pE y602 y603 y604 y605 y606 y607 y608 y609) (pE y610 y611 y612 y613 y614 y615 y616 y617))) fun y618 y619 y620 y621=>L4 (F2.b (emul (pE y602 y603 y604 y605 y606 y607 y608 y609) (pE y610 y611 y612 y613 y614 y615 y616 y617))) fun y622 y623 y624 y625=>(Pr y594 y595 y596 y597 y598 y599 y600 y601∧Pr y618 y619 y620 y621 y622 y623 y624 y625)∧L4 (F2.a (emul (pE y594 y595 y596 y597 y598 y599 y600 y601) (pE y618 y619 y620 y621 y622 y623 y624 y625))) fun y626 y627 y628 y629=>L4 (F2.b (emul (pE y594 y595 y596 y597 y598 y599 y600 y601) (pE y618 y619 y620 y621 y622 y623 y624 y625))) fun y630 y631 y632 y633=>B4 y586 y587 y588 y589 fun y634 y635 y636 y637=>B4 y590 y591 y592 y593 fun y638 y639 y640 y641=>B4 y626 y627 y628 y629 fun y642 y643 y644 y645=>B4 y630 y631 y632 y633 fun y646 y647 y648 y649=>(Pr y634 y635 y636 y637 y638 y639 y640 y641∧Pr y642 y643 y644 y645 y646 y647 y648 y649)∧L4 (F2.a (emul (pE y634 y635 y636 y637 y638 y639 y640 y641) (pE y642 y643 y644 y645 y646 y647 y648 y649))) fun y650 y651 y652 y653=>L4 (F2.b (emul (pE y634 y635 y636 y637 y638 y639 y640 y641) (pE y642 y643 y644 y645 y646 y647 y648 y649))) fun y654 y655 y656 y657=>(Pr 0 0 0 0 0 0 0 0∧Pr y650 y651 y652 y653 y654 y655 y656 y657)∧L4 (F2.a (esub (pE 0 0 0 0 0 0 0 0) (pE y650 y651 y652 y653 y654 y655 y656 y657))) fun y658 y659 y660 y661=>L4 (F2.b (esub (pE 0 0 0 0 0 0 0 0) (pE y650 y651 y652 y653 y654 y655 y656 y657))) fun y662 y663 y664 y665=>(Pr y658 y659 y660 y661 y662 y663 y664 y665)∧L4 (F2.a (reV (pE y658 y659 y660 y661 y662 y663 y664 y665))) fun y666 y667 y668 y669=>L4 (F2.b (reV (pE y658 y659 y660 y661 y662 y663 y664 y665))) fun y670 y671 y672 y673=>(W4 y666 y667 y668 y669∧W4 y670 y671 y672 y673)∧B1 ((esg (pE y666 y667 y668 y669 y670 y671 y672 y673):Nat):Int) fun y674=>((y674==1)=true→L4 (F2.a (reV (pE y658 y659 y660 y661 y662 y663 y664 y665))) fun y675 y676 y677 y678=>L4 (F2.b (reV (pE y658 y659 y660 y661 y662 y663 y664 y665))) fun y679 y680 y681 y682=>(Pr 0 0 0 0 0 0 0 0∧Pr y675 y676 y677 y678 y679 y680 y681 y682)∧L4 (F2.a (esub (pE 0 0 0 0 0 0 0 0) (pE y675 y676 y677 y678 y679 y680 y681 y682))) fun y683 y684 y685 y686=>L4 (F2.b (esub (pE 0 0 0 0 0 0 0 0) (pE y675 y676 y677 y678 y679 y680 y681 y682))) fun y687 y688 y689 y690=>MpR P y683 y684 y685 y686 y687 y688 y689 y690 y562 y563 y564 y565 y566 y567 y568 y569 y586 y587 y588 y589 y590 y591 y592 y593 y626 y627 y628 y629 y630 y631 y632 y633 u0 u1 u2 u3 u4 u5 u6 u7 v0 v1 v2 v3 v4 v5 v6 v7)∧((y674==1)=false→MpR P (lm (F2.a (reV (pE y658 y659 y660 y661 y662 y663 y664 y665))) 0) (lm (F2.a (reV (pE y658 y659 y660 y661 y662 y663 y664 y665))) 1) (lm (F2.a (reV (pE y658 y659 y660 y661 y662 y663 y664 y665))) 2) (lm (F2.a (reV (pE y658 y659 y660 y661 y662 y663 y664 y665))) 3) (lm (F2.b (reV (pE y658 y659 y660 y661 y662 y663 y664 y665))) 0) (lm (F2.b (reV (pE y658 y659 y660 y661 y662 y663 y664 y665))) 1) (lm (F2.b (reV (pE y658 y659 y660 y661 y662 y663 y664 y665))) 2) (lm (F2.b (reV (pE y658 y659 y660 y661 y662 y663 y664 y665))) 3) y562 y563 y564 y565 y566 y567 y568 y569 y586 y587 y588 y589 y590 y591 y592 y593 y626 y627 y628 y629 y630 y631 y632 y633 u0 u1 u2 u3 u4 u5 u6 u7 v0 v1 v2 v3 v4 v5 v6 v7)
theorem vc_mp2 (u0 u1 u2 u3 u4 u5 u6 u7 v0 v1 v2 v3 v4 v5 v6 v7:Int) (P:SV→Prop):(execF cxMp2 u9 Tryz.f21 64 [.agg [.int .u64 (.sym u0),.int .u64 (.sym u1),.int .u64 (.sym u2),.int .u64 (.sym u3),.int .u64 (.sym u4),.int .u64 (.sym u5),.int .u64 (.sym u6),.int .u64 (.sym u7)],.agg [.int .u64 (.sym v0),.int .u64 (.sym v1),.int .u64 (.sym v2),.int .u64 (.sym v3),.int .u64 (.sym v4),.int .u64 (.sym v5),.int .u64 (.sym v6),.int .u64 (.sym v7)],.bool (.lit false)] (memL []) fun v _=>P v)=Mp0 P u0 u1 u2 u3 u4 u5 u6 u7 v0 v1 v2 v3 v4 v5 v6 v7:=by kernel_rfl
def zE:F2:=⟨0,0⟩
instance (x:F2):Decidable x.ok:=by unfold F2.ok;infer_instance
theorem pE_0:pE 0 0 0 0 0 0 0 0=zE:=F2.eq (by decide) (by decide)
theorem Pr_0:Pr 0 0 0 0 0 0 0 0=True:=eq_true (by decide)
theorem pE_1:pE 1 0 0 0 0 0 0 0=e1 1:=F2.eq (by decide) (by decide)
theorem Pr_1:Pr 1 0 0 0 0 0 0 0=True:=eq_true (by decide)
theorem pE_2:pE 2 0 0 0 0 0 0 0=e1 2:=F2.eq (by decide) (by decide)
theorem Pr_2:Pr 2 0 0 0 0 0 0 0=True:=eq_true (by decide)
theorem pE_3:pE 3 0 0 0 0 0 0 0=e1 3:=F2.eq (by decide) (by decide)
theorem Pr_3:Pr 3 0 0 0 0 0 0 0=True:=eq_true (by decide)
theorem pE_4:pE 4 0 0 0 0 0 0 0=e1 4:=F2.eq (by decide) (by decide)
theorem Pr_4:Pr 4 0 0 0 0 0 0 0=True:=eq_true (by decide)
theorem ob_1:((0:Int)≤1∧(1:Int)<18446744073709551616)=True:=by decide
theorem ob_2:((0:Int)≤2∧(2:Int)<18446744073709551616)=True:=by decide
theorem ob_3:((0:Int)≤3∧(3:Int)<18446744073709551616)=True:=by decide
theorem ob_4:((0:Int)≤4∧(4:Int)<18446744073709551616)=True:=by decide
theorem pE_c2E:pE (lm (F2.a c2E) 0) (lm (F2.a c2E) 1) (lm (F2.a c2E) 2) (lm (F2.a c2E) 3) (lm (F2.b c2E) 0) (lm (F2.b c2E) 1) (lm (F2.b c2E) 2) (lm (F2.b c2E) 3)=c2E:=pE_l (by decide)
theorem Pr_c2E:Pr (lm (F2.a c2E) 0) (lm (F2.a c2E) 1) (lm (F2.a c2E) 2) (lm (F2.a c2E) 3) (lm (F2.b c2E) 0) (lm (F2.b c2E) 1) (lm (F2.b c2E) 2) (lm (F2.b c2E) 3)=True:=Pr_l (by decide)
theorem pE_c4E:pE (lm (F2.a c4E) 0) (lm (F2.a c4E) 1) (lm (F2.a c4E) 2) (lm (F2.a c4E) 3) (lm (F2.b c4E) 0) (lm (F2.b c4E) 1) (lm (F2.b c4E) 2) (lm (F2.b c4E) 3)=c4E:=pE_l (by decide)
theorem Pr_c4E:Pr (lm (F2.a c4E) 0) (lm (F2.a c4E) 1) (lm (F2.a c4E) 2) (lm (F2.a c4E) 3) (lm (F2.b c4E) 0) (lm (F2.b c4E) 1) (lm (F2.b c4E) 2) (lm (F2.b c4E) 3)=True:=Pr_l (by decide)
theorem pE_cgE:pE (lm (F2.a cgE) 0) (lm (F2.a cgE) 1) (lm (F2.a cgE) 2) (lm (F2.a cgE) 3) (lm (F2.b cgE) 0) (lm (F2.b cgE) 1) (lm (F2.b cgE) 2) (lm (F2.b cgE) 3)=cgE:=pE_l (by decide)
theorem Pr_cgE:Pr (lm (F2.a cgE) 0) (lm (F2.a cgE) 1) (lm (F2.a cgE) 2) (lm (F2.a cgE) 3) (lm (F2.b cgE) 0) (lm (F2.b cgE) 1) (lm (F2.b cgE) 2) (lm (F2.b cgE) 3)=True:=Pr_l (by decide)
theorem mpY_walk {x0 x1 x2 x3 x4 x5 x6 x7 u0 u1 u2 u3 u4 u5 u6 u7 v0 v1 v2 v3 v4 v5 v6 v7:Int} {p q:F2} {P:SV→Prop} (hx:Wp x0 x1 x2 x3 x4 x5 x6 x7 p) (hu:Wp u0 u1 u2 u3 u4 u5 u6 u7 q) (hv:Wp v0 v1 v2 v3 v4 v5 v6 v7 twE) (hP:P (agE2 p (eadj (esg q) (reV (gE p))))):MpY P x0 x1 x2 x3 x4 x5 x6 x7 u0 u1 u2 u3 u4 u5 u6 u7 v0 v1 v2 v3 v4 v5 v6 v7:=by
 unfold MpY
 have h1:pE x0 x1 x2 x3 x4 x5 x6 x7=p:=hx.num
 have h2:Pr x0 x1 x2 x3 x4 x5 x6 x7=True:=eq_true hx.pr
 have h3:pE u0 u1 u2 u3 u4 u5 u6 u7=q:=hu.num
 have h5:W4 u0 u1 u2 u3=True:=eq_true hu.a.wd
 have h6:W4 u4 u5 u6 u7=True:=eq_true hu.b.wd
 have h7:pE v0 v1 v2 v3 v4 v5 v6 v7=twE:=hv.num
 have h8:Pr v0 v1 v2 v3 v4 v5 v6 v7=True:=eq_true hv.pr
 simp only[h1,h2,h3,h5,h6,h7,h8,↓L4_eq,↓B4_eq,↓B1_eq,pE_cvE,Pr_cvE,pE_reV,Pr_reV,pE_0,Pr_0,W4l,true_and,and_self]
 obtain ⟨⟨k0,k1,k2,k3,_⟩,⟨k4,k5,k6,k7,_⟩,_,_⟩:=hx
 rw[k0,k1,k2,k3,k4,k5,k6,k7]
 have h9:eadj (esg q) (reV (gE p))=if esg (reV (cvE p twE))=esg q then reV (cvE p twE)else esub zE (reV (cvE p twE)):=rfl
 rw[h9]at hP
 refine ⟨fun h=> ?_,fun h=> ?_⟩
 ·rw[if_neg (by intro e;rw[e]at h;simp at h)]at hP
  exact hP
 ·rw[if_pos (by simp only[bne_eq_false_iff_eq]at h;omega)]at hP
  exact hP
theorem mpX_walk {x0 x1 x2 x3 x4 x5 x6 x7 m0 m1 m2 m3 m4 m5 m6 m7 i0 i1 i2 i3 i4 i5 i6 i7 f0 f1 f2 f3 f4 f5 f6 f7 z0 z1 z2 z3 z4 z5 z6 z7 u0 u1 u2 u3 u4 u5 u6 u7 v0 v1 v2 v3 v4 v5 v6 v7:Int} {p m i f q:F2} {P:SV→Prop} (hx:Wp x0 x1 x2 x3 x4 x5 x6 x7 p) (hm:Wp m0 m1 m2 m3 m4 m5 m6 m7 m) (hi:Wp i0 i1 i2 i3 i4 i5 i6 i7 i) (hf:Wp f0 f1 f2 f3 f4 f5 f6 f7 f) (hz:Wp z0 z1 z2 z3 z4 z5 z6 z7 oneE) (hu:Wp u0 u1 u2 u3 u4 u5 u6 u7 q) (hv:Wp v0 v1 v2 v3 v4 v5 v6 v7 twE)
  (hP:∀x,x=(if sqN (enorm (gE p))=true then p else eadd (emul (emul (emul (emul m m) i) (emul (emul m m) i)) f) oneE)→P (agE2 x (eadj (esg q) (reV (gE x))))):MpX P x0 x1 x2 x3 x4 x5 x6 x7 m0 m1 m2 m3 m4 m5 m6 m7 i0 i1 i2 i3 i4 i5 i6 i7 f0 f1 f2 f3 f4 f5 f6 f7 z0 z1 z2 z3 z4 z5 z6 z7 u0 u1 u2 u3 u4 u5 u6 u7 v0 v1 v2 v3 v4 v5 v6 v7:=by
 unfold MpX
 have nx:pE x0 x1 x2 x3 x4 x5 x6 x7=p:=hx.num
 have ox:Pr x0 x1 x2 x3 x4 x5 x6 x7=True:=eq_true hx.pr
 have nm:pE m0 m1 m2 m3 m4 m5 m6 m7=m:=hm.num
 have om:Pr m0 m1 m2 m3 m4 m5 m6 m7=True:=eq_true hm.pr
 have ni:pE i0 i1 i2 i3 i4 i5 i6 i7=i:=hi.num
 have oi:Pr i0 i1 i2 i3 i4 i5 i6 i7=True:=eq_true hi.pr
 have nf:pE f0 f1 f2 f3 f4 f5 f6 f7=f:=hf.num
 have of:Pr f0 f1 f2 f3 f4 f5 f6 f7=True:=eq_true hf.pr
 have nz:pE z0 z1 z2 z3 z4 z5 z6 z7=oneE:=hz.num
 have oz:Pr z0 z1 z2 z3 z4 z5 z6 z7=True:=eq_true hz.pr
 have nu:pE u0 u1 u2 u3 u4 u5 u6 u7=q:=hu.num
 have ou:Pr u0 u1 u2 u3 u4 u5 u6 u7=True:=eq_true hu.pr
 have nv:pE v0 v1 v2 v3 v4 v5 v6 v7=twE:=hv.num
 have ov:Pr v0 v1 v2 v3 v4 v5 v6 v7=True:=eq_true hv.pr
 simp only[nx,ox,nm,om,ni,oi,nf,of,nz,oz,nv,ov,↓L4_eq,↓B4_eq,pE_emul,Pr_emul,pE_cvE,Pr_cvE,true_and,and_self]
 have hs:reB (cvE p twE)=sqN (enorm (gE p)):=reB_eq (gE_ok p)
 rw[hs]
 refine ⟨fun h=> ?_,fun h=> ?_⟩
 ·have h:sqN (enorm (gE p))=false:=by simpa using h
  rw[h]at hP
  exact mpY_walk (wp_lm (eadd_ok _ _)) hu hv (hP _ rfl)
 ·have h:sqN (enorm (gE p))=true:=by simpa using h
  rw[if_pos h]at hP
  exact mpY_walk hx hu hv (hP _ rfl)
def kC4:F2:=esub zE (emul (emul (e1 4) cgE) (einv (emul (e1 3) (emul oneE oneE))))
theorem kC4_eq:kC4=c4E:=F2.eq (by decide +kernel) (by decide +kernel)
theorem kC2_eq:emul (esub zE oneE) (einv (e1 2))=c2E:=F2.eq (by decide +kernel) (by decide +kernel)
theorem kCg_eq:cvE oneE twE=cgE:=F2.eq (by decide +kernel) (by decide +kernel)
theorem kC3_eq:(if esg (reV (esub zE (emul cgE (emul (e1 3) (emul oneE oneE)))))=1 then esub zE (reV (esub zE (emul cgE (emul (e1 3) (emul oneE oneE)))))else reV (esub zE (emul cgE (emul (e1 3) (emul oneE oneE)))))=c3E:=F2.eq (by decide +kernel) (by decide +kernel)
theorem oneE_e1:e1 1=oneE:=rfl
theorem mpR_walk {c0 c1 c2 c3 c4 c5 c6 c7 z0 z1 z2 z3 z4 z5 z6 z7 g0 g1 g2 g3 g4 g5 g6 g7 k0 k1 k2 k3 k4 k5 k6 k7 u0 u1 u2 u3 u4 u5 u6 u7 v0 v1 v2 v3 v4 v5 v6 v7:Int} {q:F2} {P:SV→Prop} (hc:Wp c0 c1 c2 c3 c4 c5 c6 c7 c3E) (hz:Wp z0 z1 z2 z3 z4 z5 z6 z7 oneE) (hg:Wp g0 g1 g2 g3 g4 g5 g6 g7 cgE) (hk:Wp k0 k1 k2 k3 k4 k5 k6 k7 (emul (e1 3) (emul oneE oneE))) (hu:Wp u0 u1 u2 u3 u4 u5 u6 u7 q) (hv:Wp v0 v1 v2 v3 v4 v5 v6 v7 twE)
  (hP:P (agE2 (mxE q) (myE q))):MpR P c0 c1 c2 c3 c4 c5 c6 c7 z0 z1 z2 z3 z4 z5 z6 z7 g0 g1 g2 g3 g4 g5 g6 g7 k0 k1 k2 k3 k4 k5 k6 k7 u0 u1 u2 u3 u4 u5 u6 u7 v0 v1 v2 v3 v4 v5 v6 v7:=by
 unfold MpR
 have nc:pE c0 c1 c2 c3 c4 c5 c6 c7=c3E:=hc.num
 have oc:Pr c0 c1 c2 c3 c4 c5 c6 c7=True:=eq_true hc.pr
 have nz:pE z0 z1 z2 z3 z4 z5 z6 z7=oneE:=hz.num
 have oz:Pr z0 z1 z2 z3 z4 z5 z6 z7=True:=eq_true hz.pr
 have ng:pE g0 g1 g2 g3 g4 g5 g6 g7=cgE:=hg.num
 have og:Pr g0 g1 g2 g3 g4 g5 g6 g7=True:=eq_true hg.pr
 have nk:pE k0 k1 k2 k3 k4 k5 k6 k7=(emul (e1 3) (emul oneE oneE)):=hk.num
 have ok:Pr k0 k1 k2 k3 k4 k5 k6 k7=True:=eq_true hk.pr
 have nu:pE u0 u1 u2 u3 u4 u5 u6 u7=q:=hu.num
 have ou:Pr u0 u1 u2 u3 u4 u5 u6 u7=True:=eq_true hu.pr
 have nv:pE v0 v1 v2 v3 v4 v5 v6 v7=twE:=hv.num
 have ov:Pr v0 v1 v2 v3 v4 v5 v6 v7=True:=eq_true hv.pr
 have j4:esub zE (emul (emul (e1 4) cgE) (einv (emul (e1 3) (emul oneE oneE))))=c4E:=kC4_eq
 simp only[nc,oc,nz,oz,ng,og,nk,ok,nu,ou,nv,ov,↓L4_eq,↓B4_eq,pE_emul,Pr_emul,pE_esub,Pr_esub,pE_eadd,Pr_eadd,pE_einv,Pr_einv,pE_cvE,Pr_cvE,pE_0,Pr_0,pE_1,Pr_1,pE_2,Pr_2,pE_4,Pr_4,true_and,and_self,j4,kC2_eq,oneE_e1,ob_1,ob_2,ob_4,pE_c2E,Pr_c2E]
 have s1:esub c2E (emul (emul (emul q (esub oneE (emul (emul q q) cgE))) (einv (emul (esub oneE (emul (emul q q) cgE)) (eadd oneE (emul (emul q q) cgE))))) c3E)=x1E q:=rfl
 have s2:eadd c2E (emul (emul (emul q (esub oneE (emul (emul q q) cgE))) (einv (emul (esub oneE (emul (emul q q) cgE)) (eadd oneE (emul (emul q q) cgE))))) c3E)=x2E q:=rfl
 have s3:einv (emul (esub oneE (emul (emul q q) cgE)) (eadd oneE (emul (emul q q) cgE)))=ivE q:=rfl
 have s4:eadd oneE (emul (emul q q) cgE)=moE q:=rfl
 have hs:reB (cvE (x1E q) twE)=sqN (enorm (gE (x1E q))):=reB_eq (gE_ok _)
 simp only[s1,s2]
 simp only[s3]
 simp only[s4,hs]
 have w1:=wp_lm (p:=moE q) (eadd_ok _ _)
 have w2:=wp_lm (p:=ivE q) (einv_ok _)
 have w3:=wp_lm (p:=c4E) (by decide)
 have hP':∀x,x=mxE q→P (agE2 x (eadj (esg q) (reV (gE x)))):=fun x e=>by
  rw[e]
  exact hP
 refine ⟨fun h=> ?_,fun h=> ?_⟩
 ·have h:sqN (enorm (gE (x1E q)))=false:=by simpa using h
  refine mpX_walk (p:=x2E q) (wp_lm (p:=x2E q) (eadd_ok _ _)) w1 w2 w3 hz hu hv fun x e=>hP' x ?_
  have s5:eadd (emul (emul (emul (emul (moE q) (moE q)) (ivE q)) (emul (emul (moE q) (moE q)) (ivE q))) c4E) oneE=x3E q:=rfl
  rw[e,s5]
  unfold mxE
  rw[h,if_neg (by decide:¬(false=true))]
 ·have h:sqN (enorm (gE (x1E q)))=true:=by simpa using h
  refine mpX_walk (p:=x1E q) (wp_lm (p:=x1E q) (esub_ok _ _)) w1 w2 w3 hz hu hv fun x e=>hP' x ?_
  rw[e,if_pos h]
  unfold mxE
  rw[if_pos h]
theorem mp2_walk {u0 u1 u2 u3 u4 u5 u6 u7 v0 v1 v2 v3 v4 v5 v6 v7:Int} {q:F2} {P:SV→Prop} (hu:Wp u0 u1 u2 u3 u4 u5 u6 u7 q) (hv:Wp v0 v1 v2 v3 v4 v5 v6 v7 twE) (hP:P (agE2 (mxE q) (myE q))):execF cxMp2 u9 Tryz.f21 64 [.agg [.int .u64 (.sym u0),.int .u64 (.sym u1),.int .u64 (.sym u2),.int .u64 (.sym u3),.int .u64 (.sym u4),.int .u64 (.sym u5),.int .u64 (.sym u6),.int .u64 (.sym u7)],.agg [.int .u64 (.sym v0),.int .u64 (.sym v1),.int .u64 (.sym v2),.int .u64 (.sym v3),.int .u64 (.sym v4),.int .u64 (.sym v5),.int .u64 (.sym v6),.int .u64 (.sym v7)],.bool (.lit false)] (memL []) fun v _=>P v:=by
 rw[vc_mp2]
 unfold Mp0
 have n1:pE v0 v1 v2 v3 v4 v5 v6 v7=twE:=hv.num
 have n2:Pr v0 v1 v2 v3 v4 v5 v6 v7=True:=eq_true hv.pr
 simp only[n1,n2,↓L4_eq,↓B4_eq,↓B1_eq,pE_emul,Pr_emul,pE_esub,Pr_esub,pE_reV,Pr_reV,pE_0,Pr_0,pE_1,Pr_1,pE_3,Pr_3,W4l,true_and,and_self,kCg_eq,oneE_e1,ob_3,pE_cgE,Pr_cgE]
 have w1:=wp_lm (p:=cgE) (by decide)
 have w2:=wp_lm (p:=emul (e1 3) (emul oneE oneE)) (emul_ok _ _)
 have w3:Wp 1 0 0 0 0 0 0 0 oneE:=wp_lm (p:=oneE) oneE_ok
 have c:=kC3_eq
 refine ⟨fun h=> ?_,fun h=> ?_⟩
 ·have h:esg (reV (esub zE (emul cgE (emul (e1 3) (emul oneE oneE)))))=1:=by
   simp only[beq_iff_eq]at h
   omega
  rw[if_pos h]at c
  rw[c]
  exact mpR_walk (wp_lm (by decide)) w3 w1 w2 hu hv hP
 ·have h:¬esg (reV (esub zE (emul cgE (emul (e1 3) (emul oneE oneE)))))=1:=by
   simp only[beq_eq_false_iff_ne,ne_eq]at h
   omega
  rw[if_neg h]at c
  rw[c]
  exact mpR_walk (wp_lm (by decide)) w3 w1 w2 hu hv hP
def rMp2:R0:=fun args l=>
 match args,l with
 | [.agg [.int .u64 (.sym u0),.int .u64 (.sym u1),.int .u64 (.sym u2),.int .u64 (.sym u3),.int .u64 (.sym u4),.int .u64 (.sym u5),.int .u64 (.sym u6),.int .u64 (.sym u7)],.agg [.int .u64 (.sym v0),.int .u64 (.sym v1),.int .u64 (.sym v2),.int .u64 (.sym v3),.int .u64 (.sym v4),.int .u64 (.sym v5),.int .u64 (.sym v6),.int .u64 (.sym v7)],.bool (.lit false)],[]=>some (some (Pr u0 u1 u2 u3 u4 u5 u6 u7∧Pr v0 v1 v2 v3 v4 v5 v6 v7∧pE v0 v1 v2 v3 v4 v5 v6 v7=twE),agE2 (mxE (pE u0 u1 u2 u3 u4 u5 u6 u7)) (myE (pE u0 u1 u2 u3 u4 u5 u6 u7)))
 | _,_=>none
theorem mp2_ok (args:List SV) (l:List (Nat×Reg)) (p:Ob) (v:SV) (h:rMp2 args l=some (p,v)) (hp:p.ok):∃U,execF cxMp2 U Tryz.f21 64 args (memL l) fun v' _=>v'=v:=by
 unfold rMp2 at h
 split at h
 ·rename_i u0 u1 u2 u3 u4 u5 u6 u7 v0 v1 v2 v3 v4 v5 v6 v7
  simp only[Option.some.injEq,Prod.mk.injEq]at h
  obtain ⟨rfl,rfl⟩:=h
  obtain ⟨h1,h2,h3⟩:=(show Pr u0 u1 u2 u3 u4 u5 u6 u7∧Pr v0 v1 v2 v3 v4 v5 v6 v7∧pE v0 v1 v2 v3 v4 v5 v6 v7=twE from hp)
  have w:=h2.wp
  rw[h3]at w
  exact ⟨u9,mp2_walk h1.wp w rfl⟩
 ·cases h
def cMp2:Rd Tryz.prog:=mkR mixed 21 Tryz.func21 (by decide) (by kernel_rfl) [] [.num,.num,.val] rMp2 mp2_ok
end Go.Sx
namespace Go.Sx
open Go Go.Proofs
set_option maxRecDepth 100000
theorem run_eq28 (a b c d e f g h a2 b2 c2 d2 e2 f2 g2 h2 a' b' c' d' e' f' g' h' a3 b3 c3 d3 e3 f3 g3 h3:Int) (w:World):(Op.equal 28 (.agg #[.int .u64 a,.int .u64 b,.int .u64 c,.int .u64 d,.int .u64 e,.int .u64 f,.int .u64 g,.int .u64 h,.int .u64 a2,.int .u64 b2,.int .u64 c2,.int .u64 d2,.int .u64 e2,.int .u64 f2,.int .u64 g2,.int .u64 h2]) (.agg #[.int .u64 a',.int .u64 b',.int .u64 c',.int .u64 d',.int .u64 e',.int .u64 f',.int .u64 g',.int .u64 h',.int .u64 a3,.int .u64 b3,.int .u64 c3,.int .u64 d3,.int .u64 e3,.int .u64 f3,.int .u64 g3,.int .u64 h3])).run Tryz.prog w=
  .ok (((a==a' && b==b' && c==c' && d==d') && (e==e' && f==f' && g==g' && h==h')) && ((a2==a3 && b2==b3 && c2==c3 && d2==d3) && (e2==e3 && f2==f3 && g2==g3 && h2==h3))) w:=by
 have z4:=Tryz.sizeOf25
 have a4:=Tryz.isAgg25
 unfold Op.equal Op.maxDepth
 rw[show (10000:Nat)=9999+1 from rfl,run_equalIn_struct w 9999 28 _ _ (by kernel_rfl) (by kernel_rfl)]
 rw[show (Program.fieldsOf Tryz.prog 28).toList= [⟨ "X",25,0,false, "", "",0⟩,⟨ "Y",25,8,false, "", "",64⟩] by kernel_rfl]
 simp only[Op.eqFields]
 go_simp
 have q:∀(a b c d a' b' c' d':Int) (w:World),(Op.equalIn 9998 23 (.agg #[.int .u64 a,.int .u64 b,.int .u64 c,.int .u64 d]) (.agg #[.int .u64 a',.int .u64 b',.int .u64 c',.int .u64 d'])).run Tryz.prog w= .ok (a==a' && b==b' && c==c' && d==d') w:=run_eq23 9996
 simp only[q,Result.andThen_ok]
 generalize (a==a' && b==b' && c==c' && d==d')=B1
 generalize (e==e' && f==f' && g==g' && h==h')=B2
 generalize (a2==a3 && b2==b3 && c2==c3 && d2==d3)=B3
 generalize (e2==e3 && f2==f3 && g2==g3 && h2==h3)=B4
 cases B1<;>cases B2<;>cases B3<;>cases B4<;>rfl
def eq28:Eqs Tryz.prog where
 t:=28
 n:=16
 guard:=by kernel_rfl
 sound:=fun xs ys w hx hy=>by
  match xs,ys,hx,hy with
  | [a,b,c,d,e,f,g,h,a2,b2,c2,d2,e2,f2,g2,h2],[a',b',c',d',e',f',g',h',a3,b3,c3,d3,e3,f3,g3,h3],_,_=>
   have:=run_eq28 a b c d e f g h a2 b2 c2 d2 e2 f2 g2 h2 a' b' c' d' e' f' g' h' a3 b3 c3 d3 e3 f3 g3 h3 w
   refine this.trans ?_
   congr 1
   rw[Bool.eq_iff_iff]
   simp only[Bool.and_eq_true,beq_iff_eq,decide_eq_true_eq,List.cons.injEq,and_true,and_assoc]
end Go.Sx
namespace Go.Sx
open Go Go.Proofs Go.Num
set_option maxRecDepth 100000
def cxO2:Cx Tryz.prog:= { rds:= [cTw2,cMp2,cMle2,cAde2],efs:= [],eqs:= [eq43,eq28] }
theorem pE_tw:pE 3632125457679333605 13093307605518643107 9348936922344483523 3104278944836790958 16474938222586303954 12056031220135172178 14784384838321896948 42524369107353300=twE:=F2.eq (by decide +kernel) (by decide +kernel)
theorem Pr_tw:Pr 3632125457679333605 13093307605518643107 9348936922344483523 3104278944836790958 16474938222586303954 12056031220135172178 14784384838321896948 42524369107353300=True:=eq_true (by decide +kernel)
theorem vc_mpp (u0 u1 u2 u3 u4 u5 u6 u7:Int) (P:SV→Prop):(execF cxO2 u9 Tryz.f8 64 [.agg [.int .u64 (.sym u0),.int .u64 (.sym u1),.int .u64 (.sym u2),.int .u64
 (.sym u3),.int .u64 (.sym u4),.int .u64 (.sym u5),.int .u64 (.sym u6),.int .u64 (.sym u7)]] (memL []) fun v _=>P v)=(B4 u0 u1 u2 u3 fun x0 x1 x2 x3=>B4 u4 u5 u6 u7 fun x4 x5 x6 x7=>B4 3632125457679333605 13093307605518643107 9348936922344483523 3104278944836790958 fun x8 x9 x10 x11=>B4 16474938222586303954 12056031220135172178 14784384838321896948 42524369107353300 fun x12 x13 x14 x15=>
 (((Pr x0 x1 x2 x3 x4 x5 x6 x7)∧((Pr x8 x9 x10 x11 x12 x13 x14 x15)∧((pE x8 x9 x10 x11 x12 x13 x14 x15)=twE)))∧(L4 (F2.a (mxE (pE x0 x1 x2 x3 x4 x5 x6 x7))) fun x16 x17 x18 x19=>L4
 (F2.b (mxE (pE x0 x1 x2 x3 x4 x5 x6 x7))) fun x20 x21 x22 x23=>L4 (F2.a (myE (pE x0 x1 x2 x3 x4 x5 x6 x7))) fun x24 x25 x26 x27=>L4 (F2.b (myE (pE x0 x1 x2 x3 x4 x5 x6 x7))) fun x28 x29 x30 x31=>
 (P (SV.agg [(U x16),(U x17),(U x18),(U x19),(U x20),(U x21),(U x22),(U x23),(U x24),(U x25),(U x26),(U x27),(U x28),(U x29),(U x30),(U x31)]))))):=by kernel_rfl
theorem vc_o2 (v0 v1 v2 v3 v4 v5 v6 v7 w0 w1 w2 w3 w4 w5 w6 w7:Int) (P:SV→Prop):(execF cxO2 u9 Tryz.f7 64 [.agg [.int .u64 (.sym v0),.int .u64
 (.sym v1),.int .u64 (.sym v2),.int .u64 (.sym v3),.int .u64 (.sym v4),.int .u64 (.sym v5),.int .u64 (.sym v6),.int .u64 (.sym v7),.int .u64 (.sym w0),.int .u64
 (.sym w1),.int .u64 (.sym w2),.int .u64 (.sym w3),.int .u64 (.sym w4),.int .u64 (.sym w5),.int .u64 (.sym w6),.int .u64 (.sym w7)]] (memL []) fun v _=>P v)=
 (B4 v0 v1 v2 v3 fun x0 x1 x2 x3=>B4 v4 v5 v6 v7 fun x4 x5 x6 x7=>B4 w0 w1 w2 w3 fun x8 x9 x10 x11=>B4 w4 w5 w6 w7 fun x12 x13 x14 x15=>((((decide
 ([x0,x1,x2,x3,x4,x5,x6,x7,x8,x9,x10,x11,x12,x13,x14,x15]= [0,0,0,0,0,0,0,0,0,0,0,0,0,0,0,0]))=Bool.true)→(P (SV.bool
 (B.lit Bool.true))))∧(((decide ([x0,x1,x2,x3,x4,x5,x6,x7,x8,x9,x10,x11,x12,x13,x14,x15]= [0,0,0,0,0,0,0,0,0,0,0,0,0,0,0,0]))=Bool.false)
 →(B4 w0 w1 w2 w3 fun x16 x17 x18 x19=>B4 w4 w5 w6 w7 fun x20 x21 x22 x23=>B4 w0 w1 w2 w3 fun x24 x25 x26 x27=>B4 w4 w5 w6 w7 fun x28 x29 x30 x31=>
 (((Pr x16 x17 x18 x19 x20 x21 x22 x23)∧(Pr x24 x25 x26 x27 x28 x29 x30 x31))∧(L4 (F2.a (emul (pE x16 x17 x18 x19 x20 x21 x22 x23) (pE x24 x25 x26 x27 x28 x29 x30 x31))) fun x32 x33 x34 x35=>L4
 (F2.b (emul (pE x16 x17 x18 x19 x20 x21 x22 x23) (pE x24 x25 x26 x27 x28 x29 x30 x31))) fun x36 x37 x38 x39=>B4 v0 v1 v2 v3 fun x40 x41 x42 x43=>B4 v4 v5 v6 v7 fun x44 x45 x46 x47=>B4 v0 v1 v2 v3 fun x48 x49 x50 x51=>B4 v4 v5 v6 v7 fun x52 x53 x54 x55=>B4 v0 v1 v2 v3 fun x56 x57 x58 x59=>B4 v4 v5 v6 v7 fun x60 x61 x62 x63=>
 (((Pr x48 x49 x50 x51 x52 x53 x54 x55)∧(Pr x56 x57 x58 x59 x60 x61 x62 x63))∧(L4 (F2.a (emul (pE x48 x49 x50 x51 x52 x53 x54 x55) (pE x56 x57 x58 x59 x60 x61 x62 x63))) fun x64 x65 x66 x67=>L4
 (F2.b (emul (pE x48 x49 x50 x51 x52 x53 x54 x55) (pE x56 x57 x58 x59 x60 x61 x62 x63))) fun x68 x69 x70 x71=>(((Pr x40 x41 x42 x43 x44 x45 x46 x47)
 ∧(Pr x64 x65 x66 x67 x68 x69 x70 x71))∧(L4 (F2.a (emul (pE x40 x41 x42 x43 x44 x45 x46 x47) (pE x64 x65 x66 x67 x68 x69 x70 x71))) fun x72 x73 x74 x75=>L4
 (F2.b (emul (pE x40 x41 x42 x43 x44 x45 x46 x47) (pE x64 x65 x66 x67 x68 x69 x70 x71))) fun x76 x77 x78 x79=>B4 3632125457679333605 13093307605518643107 9348936922344483523 3104278944836790958 fun x80 x81 x82 x83=>B4 16474938222586303954 12056031220135172178 14784384838321896948 42524369107353300 fun x84 x85 x86 x87=>
 (((Pr x72 x73 x74 x75 x76 x77 x78 x79)∧(Pr x80 x81 x82 x83 x84 x85 x86 x87))∧(L4 (F2.a (eadd (pE x72 x73 x74 x75 x76 x77 x78 x79) (pE x80 x81 x82 x83 x84 x85 x86 x87))) fun x88 x89 x90 x91=>L4
 (F2.b (eadd (pE x72 x73 x74 x75 x76 x77 x78 x79) (pE x80 x81 x82 x83 x84 x85 x86 x87))) fun x92 x93 x94 x95=>(P (SV.bool (B.sym (decide ([x32,x33,x34,x35,x36,x37,x38,x39]= [x88,x89,x90,x91,x92,x93,x94,x95]))))))))))))))))):=by kernel_rfl
def rMpp:R0:=fun args l=>
 match args,l with
 | [.agg [.int .u64 (.sym u0),.int .u64 (.sym u1),.int .u64 (.sym u2),.int .u64 (.sym u3),.int .u64 (.sym u4),.int .u64 (.sym u5),.int .u64 (.sym u6),.int .u64 (.sym u7)]],[]=>some (some (Pr u0 u1 u2 u3 u4 u5 u6 u7),agE2 (mxE (pE u0 u1 u2 u3 u4 u5 u6 u7)) (myE (pE u0 u1 u2 u3 u4 u5 u6 u7)))
 | _,_=>none
theorem mpp_ok (args:List SV) (l:List (Nat×Reg)) (p:Ob) (v:SV) (h:rMpp args l=some (p,v)) (hp:p.ok):∃U,execF cxO2 U Tryz.f8 64 args (memL l) fun v' _=>v'=v:=by
 unfold rMpp at h
 split at h
 ·rename_i u0 u1 u2 u3 u4 u5 u6 u7
  simp only[Option.some.injEq,Prod.mk.injEq]at h
  obtain ⟨rfl,rfl⟩:=h
  have h1:Pr u0 u1 u2 u3 u4 u5 u6 u7:=hp
  refine ⟨u9,?_⟩
  rw[vc_mpp u0 u1 u2 u3 u4 u5 u6 u7 fun v'=>v'=_]
  simp only[↓L4_eq,↓B4_eq]
  exact ⟨⟨h1,of_eq_true Pr_tw,pE_tw⟩,rfl⟩
 ·cases h
def cMpp:Rd Tryz.prog:=mkR mixed 8 Tryz.func8 (by decide) (by kernel_rfl) [] [.num] rMpp mpp_ok
def rO2:R0:=fun args l=>
 match args,l with
 | [.agg [.int .u64 (.sym v0),.int .u64 (.sym v1),.int .u64 (.sym v2),.int .u64 (.sym v3),.int .u64 (.sym v4),.int .u64 (.sym v5),.int .u64 (.sym v6),.int .u64 (.sym v7),.int .u64 (.sym w0),.int .u64 (.sym w1),.int .u64 (.sym w2),.int .u64 (.sym w3),.int .u64 (.sym w4),.int .u64 (.sym w5),.int .u64 (.sym w6),.int .u64 (.sym w7)]],[]=>some (some (Pr v0 v1 v2 v3 v4 v5 v6 v7∧Pr w0 w1 w2 w3 w4 w5 w6 w7∧emul (pE w0 w1 w2 w3 w4 w5 w6 w7) (pE w0 w1 w2 w3 w4 w5 w6 w7)=gE (pE v0 v1 v2 v3 v4 v5 v6 v7)),.bool (.lit true))
 | _,_=>none
theorem o2_ok (args:List SV) (l:List (Nat×Reg)) (p:Ob) (v:SV) (h:rO2 args l=some (p,v)) (hp:p.ok):∃U,execF cxO2 U Tryz.f7 64 args (memL l) fun v' _=>∀β u,Den β v' u→Den β v u:=by
 unfold rO2 at h
 split at h
 ·rename_i v0 v1 v2 v3 v4 v5 v6 v7 w0 w1 w2 w3 w4 w5 w6 w7
  simp only[Option.some.injEq,Prod.mk.injEq]at h
  obtain ⟨rfl,rfl⟩:=h
  obtain ⟨h1,h2,h3⟩:=(show Pr v0 v1 v2 v3 v4 v5 v6 v7∧Pr w0 w1 w2 w3 w4 w5 w6 w7∧emul (pE w0 w1 w2 w3 w4 w5 w6 w7) (pE w0 w1 w2 w3 w4 w5 w6 w7)=gE (pE v0 v1 v2 v3 v4 v5 v6 v7) from hp)
  refine ⟨u9,?_⟩
  rw[vc_o2 v0 v1 v2 v3 v4 v5 v6 v7 w0 w1 w2 w3 w4 w5 w6 w7 fun v'=>∀β u,Den β v' u→Den β (.bool (.lit true)) u]
  have a1:Pr v0 v1 v2 v3 v4 v5 v6 v7=True:=eq_true h1
  have a2:Pr w0 w1 w2 w3 w4 w5 w6 w7=True:=eq_true h2
  have g:eadd (emul (pE v0 v1 v2 v3 v4 v5 v6 v7) (emul (pE v0 v1 v2 v3 v4 v5 v6 v7) (pE v0 v1 v2 v3 v4 v5 v6 v7))) twE=gE (pE v0 v1 v2 v3 v4 v5 v6 v7):=rfl
  simp only[a1,a2,↓L4_eq,↓B4_eq,pE_emul,Pr_emul,pE_tw,Pr_tw,true_and,and_self,h3,g]
  refine ⟨fun _ β u hu=>hu,fun _ β u hu=> ?_⟩
  simp only[Den,B.val]at hu ⊢
  simpa using hu
 ·cases h
def cO2:Rd Tryz.prog:=mkQ mixed 7 Tryz.func7 (by decide) (by kernel_rfl) [] [.num] rO2 o2_ok
def cxL7:Cx Tryz.prog:= { rds:= [cLwe2,cMg2,cO2,cMpp],efs:= [],eqs:= [eq28] }
theorem vc_l7 (u0 u1 u2 u3 u4 u5 u6 u7:Int) (P:SV→Prop):(execF cxL7 u9 Tryz.f3 64 [.agg [.int .u64 (.sym u0),.int .u64 (.sym u1),.int .u64 (.sym u2),.int .u64
 (.sym u3),.int .u64 (.sym u4),.int .u64 (.sym u5),.int .u64 (.sym u6),.int .u64 (.sym u7)]] (memL []) fun v _=>P v)=(B4 u0 u1 u2 u3 fun x0 x1 x2 x3=>B4 u4 u5 u6 u7 fun x4 x5 x6 x7=>
 (((W4 x0 x1 x2 x3)∧(W4 x4 x5 x6 x7))∧((((Bool.not (decide (((V4 x0 x1 x2 x3)<qI)∧((V4 x4 x5 x6 x7)<qI))))=Bool.true)→(P (SV.bool (B.lit Bool.true))))
 ∧(((Bool.not (decide (((V4 x0 x1 x2 x3)<qI)∧((V4 x4 x5 x6 x7)<qI))))=Bool.false)→(B4 u0 u1 u2 u3 fun x8 x9 x10 x11=>B4 u4 u5 u6 u7 fun x12 x13 x14 x15=>
 ((Pr x8 x9 x10 x11 x12 x13 x14 x15)∧(L4 (F2.a (mxE (pE x8 x9 x10 x11 x12 x13 x14 x15))) fun x16 x17 x18 x19=>L4 (F2.b (mxE (pE x8 x9 x10 x11 x12 x13 x14 x15))) fun x20 x21 x22 x23=>L4
 (F2.a (myE (pE x8 x9 x10 x11 x12 x13 x14 x15))) fun x24 x25 x26 x27=>L4 (F2.b (myE (pE x8 x9 x10 x11 x12 x13 x14 x15))) fun x28 x29 x30 x31=>(((Pr x16 x17 x18 x19 x20 x21 x22 x23)
 ∧((Pr x24 x25 x26 x27 x28 x29 x30 x31)∧((emul (pE x24 x25 x26 x27 x28 x29 x30 x31) (pE x24 x25 x26 x27 x28 x29 x30 x31))=(gE (pE x16 x17 x18 x19 x20 x21 x22 x23)))))
 ∧(L4 (F2.a (mxE (pE x8 x9 x10 x11 x12 x13 x14 x15))) fun x32 x33 x34 x35=>L4 (F2.b (mxE (pE x8 x9 x10 x11 x12 x13 x14 x15))) fun x36 x37 x38 x39=>L4
 (F2.a (myE (pE x8 x9 x10 x11 x12 x13 x14 x15))) fun x40 x41 x42 x43=>L4 (F2.b (myE (pE x8 x9 x10 x11 x12 x13 x14 x15))) fun x44 x45 x46 x47=>B4 u0 u1 u2 u3 fun x48 x49 x50 x51=>B4 u4 u5 u6 u7 fun x52 x53 x54 x55=>
 ((Pr x48 x49 x50 x51 x52 x53 x54 x55)∧(L4 (F2.a (mxE (pE x48 x49 x50 x51 x52 x53 x54 x55))) fun x56 x57 x58 x59=>L4 (F2.b (mxE (pE x48 x49 x50 x51 x52 x53 x54 x55))) fun x60 x61 x62 x63=>L4
 (F2.a (myE (pE x48 x49 x50 x51 x52 x53 x54 x55))) fun x64 x65 x66 x67=>L4 (F2.b (myE (pE x48 x49 x50 x51 x52 x53 x54 x55))) fun x68 x69 x70 x71=>(P
 (SV.bool (B.sym (decide ([x32,x33,x34,x35,x36,x37,x38,x39,x40,x41,x42,x43,x44,x45,x46,x47]= [x56,x57,x58,x59,x60,x61,x62,x63,x64,x65,x66,x67,x68,x69,x70,x71])))))))))))))))):=by kernel_rfl
theorem mx_pE (p:F2):pE (lm (F2.a (mxE p)) 0) (lm (F2.a (mxE p)) 1) (lm (F2.a (mxE p)) 2) (lm (F2.a (mxE p)) 3) (lm (F2.b (mxE p)) 0) (lm (F2.b (mxE p)) 1) (lm (F2.b (mxE p)) 2) (lm (F2.b (mxE p)) 3)=mxE p:=pE_l (mxE_ok p)
theorem mx_Pr (p:F2):Pr (lm (F2.a (mxE p)) 0) (lm (F2.a (mxE p)) 1) (lm (F2.a (mxE p)) 2) (lm (F2.a (mxE p)) 3) (lm (F2.b (mxE p)) 0) (lm (F2.b (mxE p)) 1) (lm (F2.b (mxE p)) 2) (lm (F2.b (mxE p)) 3)=True:=Pr_l (mxE_ok p)
theorem my_pE (p:F2):pE (lm (F2.a (myE p)) 0) (lm (F2.a (myE p)) 1) (lm (F2.a (myE p)) 2) (lm (F2.a (myE p)) 3) (lm (F2.b (myE p)) 0) (lm (F2.b (myE p)) 1) (lm (F2.b (myE p)) 2) (lm (F2.b (myE p)) 3)=myE p:=pE_l (myE_ok p)
theorem my_Pr (p:F2):Pr (lm (F2.a (myE p)) 0) (lm (F2.a (myE p)) 1) (lm (F2.a (myE p)) 2) (lm (F2.a (myE p)) 3) (lm (F2.b (myE p)) 0) (lm (F2.b (myE p)) 1) (lm (F2.b (myE p)) 2) (lm (F2.b (myE p)) 3)=True:=Pr_l (myE_ok p)
theorem l7_walk {u0 u1 u2 u3 u4 u5 u6 u7:Int} {P:SV→Prop} (hw:W4 u0 u1 u2 u3∧W4 u4 u5 u6 u7) (hP:∀b:B,b.val=true→P (.bool b)):
  execF cxL7 u9 Tryz.f3 64 [.agg [.int .u64 (.sym u0),.int .u64 (.sym u1),.int .u64 (.sym u2),.int .u64 (.sym u3),.int .u64 (.sym u4),.int .u64 (.sym u5),.int .u64 (.sym u6),.int .u64 (.sym u7)]] (memL []) fun v _=>P v:=by
 rw[vc_l7,B4_eq,B4_eq]
 refine ⟨hw,fun _=>hP _ rfl,fun h=> ?_⟩
 have h:V4 u0 u1 u2 u3<qI∧V4 u4 u5 u6 u7<qI:=by simpa using h
 have pr:Pr u0 u1 u2 u3 u4 u5 u6 u7:=⟨hw,h⟩
 have e1:Pr u0 u1 u2 u3 u4 u5 u6 u7=True:=eq_true pr
 simp only[↓L4_eq,↓B4_eq,e1,mx_pE,mx_Pr,my_pE,my_Pr,my_on,true_and]
 refine hP _ ?_
 simp[B.val]
end Go.Sx
namespace Go.Sx
open Go Go.Proofs Go.RowKit
set_option maxRecDepth 100000
theorem Fr.same (T:Nat→Nat→Prop) (w:World):Fr T w w:=⟨rfl,rfl,rfl,Nat.le_refl _,fun _ _=>ObjFr.refl _ _⟩
theorem Fr.below {w w':World} (h:Fr noT w w'):Below w.heap.size w w':=by
 refine ⟨h.os,h.tape,h.output,h.size,fun k hk=> ?_⟩
 have:=h.blk k hk
 unfold ObjFr at this
 split at this
 ·rename_i c t f he
  obtain ⟨c',h1,h2,h3⟩:=this
  rw[h1,he]
  have:c'=c:=Array.ext_getElem? fun i=>h3 i (by unfold noT;simp)
  rw[this]
 ·exact this
def env0:Env:=fun r=>if r%2=0 then some (r / 2,0)else none
theorem env0_gid (g:Nat):env0 (gid g)=some (g,0):=by
 unfold env0 gid
 rw[if_pos (by omega)]
 simp
theorem env0_fresh:∀n,64≤n→Fresh env0 n:=fun n hn j hj=>by
 unfold env0 rid
 rw[if_neg (by omega)]
theorem holds_ro {β:Env} {W:World} {l:List (Nat×Reg)} (h:∀x∈l,x.2.ro=true∧RegOk β W.heap.size noT W x.1 x.2):Holds β noT (memL l) W W:=by
 have hm:∀r g,(memL l).get r=some g→(r,g)∈l:=fun r g hg=>by
  rcases get_fold_set l _ hg with hg | hg
  ·exact hg
  ·rw[Tr.get_leaf]at hg;cases hg
 refine ⟨Fr.same _ _,fun r g hg=>(h _ (hm r g hg)).2,fun r s g k _ hg hk hro=> ?_⟩
 rcases hro with hro | hro
 ·have:=(h _ (hm r g hg)).1
  simp only at this
  rw[hro]at this;cases this
 ·have:=(h _ (hm s k hk)).1
  simp only at this
  rw[hro]at this;cases this
theorem regOk_ints {β:Env} {B:Nat} {W:World} {r b o:Nat} {k:IntKind} {xs:List Int} {arr:Array Value} {t:TypeId} {fz:Nat×Nat} (hβ:β r=some (b,o)) (hb:W.heap[b]? =some (.cells arr t fz))
  (hc:∀i u,(xs.map (Value.int k))[i]? =some u→arr[o+i]? =some u):RegOk β B noT W r ⟨true,.ints k xs⟩:=
 ⟨⟨b,o,arr,t,fz,_,hβ,hb,rfl,hc,fun h=>by cases h⟩⟩
def isTrue:SV→Mem→Prop:=fun sv _=>∃b:B,sv= .bool b∧b.val=true
theorem isTrue_lit (m:Mem):isTrue (.bool (.lit true)) m:=⟨_,rfl,rfl⟩
theorem isTrue_sym (b:Bool) (m:Mem) (h:b=true):isTrue (.bool (.sym b)) m:=⟨_,rfl,h⟩
theorem done_true {β:Env} {W:World} {e:Ending} {w':World} (h:Done β noT W isTrue e w'):e= .returned (.bool true)∧Below W.heap.size W w':=by
 obtain ⟨β',v,sv,m',_,rfl,hd,hH,b,rfl,hb⟩:=h
 refine ⟨?_,hH.fr.below⟩
 simp only[Den]at hd
 rw[hd,hb]
theorem run_law {W:World} {n0 n1 n2 n3 n4 n5 n6 n7:Int} (hw:W4 n0 n1 n2 n3∧W4 n4 n5 n6 n7):
  Calls Tryz.prog 3 #[.agg #[.int .u64 n0,.int .u64 n1,.int .u64 n2,.int .u64 n3,.int .u64 n4,.int .u64 n5,.int .u64 n6,.int .u64 n7]] W fun e W'=>e= .returned (.bool true)∧Below W.heap.size W W':=by
 have di:∀n:Int,Den env0 (.int .u64 (.sym n)) (.int .u64 n):=fun n=>by simp[Den,A.val]
 have da:DenL env0 [.agg [.int .u64 (.sym n0),.int .u64 (.sym n1),.int .u64 (.sym n2),.int .u64 (.sym n3),.int .u64 (.sym n4),.int .u64 (.sym n5),.int .u64 (.sym n6),.int .u64 (.sym n7)]] [.agg #[.int .u64 n0,.int .u64 n1,.int .u64 n2,.int .u64 n3,.int .u64 n4,.int .u64 n5,.int .u64 n6,.int .u64 n7]]:=by
  refine ⟨_,[],?_,rfl,rfl⟩
  simp only[Den]
  exact ⟨_,⟨_,_,di n0,⟨_,_,di n1,⟨_,_,di n2,⟨_,_,di n3,⟨_,_,di n4,⟨_,_,di n5,⟨_,_,di n6,⟨_,_,di n7,rfl,rfl⟩,rfl⟩,rfl⟩,rfl⟩,rfl⟩,rfl⟩,rfl⟩,rfl⟩,rfl⟩
 have hH:Holds env0 noT (memL []) W W:=holds_ro (by intro x hx;cases hx)
 exact (execF_sound mixed Tryz.func3 hH da env0_gid env0_fresh (l7_walk (P:=fun sv=>∃b:B,sv= .bool b∧b.val=true) hw fun b hb=>⟨b,rfl,hb⟩)).mono fun e w' h=>done_true h
end Go.Sx
namespace Go.Proofs.YtajbcjgonpoojaaGreatDoor
open Go Go.Sx Go.ChangeShapes Go.WideShapes Go.RowKit
set_option maxRecDepth 100000
set_option maxHeartbeats 4000000
theorem own:ownKnob Tryz.prog.godebug=none:=by kernel_rfl
theorem laidOut:laidOutB Tryz.prog=true:=by kernel_rfl
theorem cells25:Tryz.prog.cellsOf 25=8:=by kernel_rfl
theorem cells22:Tryz.prog.cellsOf 22=1:=by kernel_rfl
theorem cells23:Tryz.prog.cellsOf 23=4:=by kernel_rfl
theorem gE:Tryz.prog.globalNamed "loop.example/pub-g03347/pub/gnarkcrypto/ecc/bn254/fp.errInvalidEncoding" =some 0:=by kernel_rfl
theorem tE:(Tryz.prog.globals[0]?).map (·.type)=some 58:=by kernel_rfl
def laidK:List (String×DataW Unit):= [("loop.example/pub-g03347/pub/gnarkcrypto/ecc/bn254/fp.errInvalidEncoding",Rows.laid_loop_example_pub_g03347_pub_gnarkcrypto_ecc_bn254_fp_errInvalidEncoding)]
theorem open8 {H:Type} {enc:TypeId×Value→H} {W:World} {base:Nat} {v:Value} {d:DataW H} {ps:List MemPlace} (hval:Value.okWide Tryz.prog W .any base 25 v)
  (h:DataW.Trod enc Tryz.prog W 0 (fun _=>true) true 25 v d ps):∃n0 n1 n2 n3 n4 n5 n6 n7:Int,v= .agg #[.int .u64 n0,.int .u64 n1,.int .u64 n2,.int .u64 n3,.int .u64 n4,.int .u64 n5,.int .u64 n6,.int .u64 n7]∧W4 n0 n1 n2 n3∧W4 n4 n5 n6 n7:=by
 simp only[Value.okWide,Tryz.underlying25]at hval
 obtain ⟨cs,rfl,hs,_⟩:=hval
 rw[cells25]at hs
 obtain ⟨fuel,hf⟩:=h
 obtain ⟨l⟩:=cs
 have hl:l.length=8:=by simpa using hs
 match l,hl with
 | [c0,c1,c2,c3,c4,c5,c6,c7],_=>
  simp only[Value.cells]at hf
  obtain ⟨z0,z1,m,_,_,s0,s1⟩:=trod_struct2 Tryz.underlying25 hf
  rw[cells23]at s0 s1
  simp only[List.drop_zero,List.drop_succ_cons,List.take_succ_cons,List.take_zero]at s0 s1
  obtain ⟨y0,y1,y2,y3,n,_,t0,t1,t2,t3⟩:=trod_array4 Tryz.underlying23 cells22 s0
  obtain ⟨y4,y5,y6,y7,n',_,t4,t5,t6,t7⟩:=trod_array4 Tryz.underlying23 cells22 s1
  obtain ⟨n0,e0,_,w0⟩:=DataW.trod_int Tryz.underlying22 t0
  obtain ⟨n1,e1,_,w1⟩:=DataW.trod_int Tryz.underlying22 t1
  obtain ⟨n2,e2,_,w2⟩:=DataW.trod_int Tryz.underlying22 t2
  obtain ⟨n3,e3,_,w3⟩:=DataW.trod_int Tryz.underlying22 t3
  obtain ⟨n4,e4,_,w4⟩:=DataW.trod_int Tryz.underlying22 t4
  obtain ⟨n5,e5,_,w5⟩:=DataW.trod_int Tryz.underlying22 t5
  obtain ⟨n6,e6,_,w6⟩:=DataW.trod_int Tryz.underlying22 t6
  obtain ⟨n7,e7,_,w7⟩:=DataW.trod_int Tryz.underlying22 t7
  simp only[List.cons.injEq,and_true]at e0 e1 e2 e3 e4 e5 e6 e7
  subst e0 e1 e2 e3 e4 e5 e6 e7
  have b0:=bounds_u64 w0
  have b1:=bounds_u64 w1
  have b2:=bounds_u64 w2
  have b3:=bounds_u64 w3
  have b4:=bounds_u64 w4
  have b5:=bounds_u64 w5
  have b6:=bounds_u64 w6
  have b7:=bounds_u64 w7
  exact ⟨n0,n1,n2,n3,n4,n5,n6,n7,rfl,⟨⟨by omega,by omega⟩,⟨by omega,by omega⟩,⟨by omega,by omega⟩,⟨by omega,by omega⟩⟩,⟨⟨by omega,by omega⟩,⟨by omega,by omega⟩,⟨by omega,by omega⟩,⟨by omega,by omega⟩⟩⟩
theorem door_met (os:Os) (args:Array Value):laidMetH Tryz.prog laidK ((World.doorLaid Tryz.prog 2000 os).forCall (fun _ _=>0) ⟨#[],args,[]⟩).memory:=
 laidMetH_of_parts3 (fuel:=8) (laidMet_of_run' 8 (by kernel_rfl) (by kernel_rfl)) (by kernel_rfl) (by kernel_rfl)
theorem var_step {H:Type} {enc:TypeId×Value→H} {W W':World} {n:String} {g:Nat} {t:TypeId} {ns:List String} {d:DataW H} {ds:List (DataW H)} {q:List MemPlace} (hg:Tryz.prog.globalNamed n=some g) (ht:(Tryz.prog.globals[g]?).map (·.type)=some t)
  (hr:Tryz.prog.readableRec t=true) (hs:t<Tryz.prog.types.size) (hb:Below W.heap.size W W') (hlt:∀x∈q,x.block<W.heap.size)
  (hn:∀q',(∀x∈q',x.block<W.heap.size)→DataW.TrodVars enc Tryz.prog W (fun _=>true) ns ds q'→DataW.TrodVars enc Tryz.prog W' (fun b=>decide (b<W.heap.size)) ns ds q')
  (h:DataW.TrodVars enc Tryz.prog W (fun _=>true) (n::ns) (d::ds) q):DataW.TrodVars enc Tryz.prog W' (fun b=>decide (b<W.heap.size)) (n::ns) (d::ds) q:=by
 obtain ⟨g',t',cs,fuel,p,r,h1,h2,h3,h4,hs',e⟩:=h
 obtain rfl:=Option.some.inj (hg.symm.trans h1)
 obtain rfl:=Option.some.inj (ht.symm.trans h2)
 have hp:∀x∈p,x.block<W.heap.size:=fun x hx=>hlt x (by rw[e];simp[hx])
 have hq:∀x∈r,x.block<W.heap.size:=fun x hx=>hlt x (by rw[e];simp[hx])
 obtain ⟨fuel',h4'⟩:=Below.trod (v:= .agg cs) laidOut hr hs ⟨fuel,h4⟩ hb hp
 have h3':W'.var? Tryz.prog n=some cs:=by
  unfold World.var? at h3 ⊢
  rw[hg]at h3 ⊢
  simp only[Option.bind_some]at h3 ⊢
  have h0:g<W.heap.size:=by
   cases hh:W.heap[g]? with
   | none=>rw[hh]at h3;cases h3
   | some o=>exact (Array.getElem?_eq_some_iff.1 hh).1
  rw[hb.block g h0]
  exact h3
 exact ⟨g,t,cs,fuel',p,r,hg,ht,h3',h4',hn r hq hs',e⟩
theorem vars_stay {H:Type} {enc:TypeId×Value→H} {W W':World} {e:DataW H} {q:List MemPlace} (hb:Below W.heap.size W W') (hlt:∀x∈q,x.block<W.heap.size)
  (h:DataW.TrodVars enc Tryz.prog W (fun _=>true) ["loop.example/pub-g03347/pub/gnarkcrypto/ecc/bn254/fp.errInvalidEncoding"] [e] q):DataW.TrodVars enc Tryz.prog W' (fun b=>decide (b<W.heap.size)) ["loop.example/pub-g03347/pub/gnarkcrypto/ecc/bn254/fp.errInvalidEncoding"] [e] q:=
 var_step gE tE (by kernel_rfl) (of_decide_eq_true (by kernel_rfl)) hb hlt (fun _ _ h''=>h'') h
theorem post_law {H:Type} {enc:TypeId×Value→H} {fn:Func} {s:ChangeSpec} {W W':World} {args:Array Value} {ds gs:List (DataW H)} {before:List MemPlace}
  (hp:fn.params= #[25]) (hr:fn.resultTypes= #[4]) (hv:s.vars= ["loop.example/pub-g03347/pub/gnarkcrypto/ecc/bn254/fp.errInvalidEncoding"])
  (hs:∀d1 g1:DataW H,s.fn H [d1,g1]= { results:= [.lit (.bool true)],args:= [d1],vars:= [g1] })
  (hW:DataW.Whole enc Tryz.prog fn.params.toList s.vars false W args.toList ds gs before) (hb:Below W.heap.size W W'):
  s.post enc Tryz.prog fn false true false false W args (.bool true) W':=by
 have hlt:=hW.lt
 have hW':=hW
 obtain ⟨p,q,hA,hV,rfl,hfz,hnd⟩:=hW
 have hA':DataW.TrodAll enc Tryz.prog W 0 (fun _=>true) true fn.params.toList args.toList ds p:=hA
 have hV':DataW.TrodVars enc Tryz.prog W (fun _=>true) s.vars gs q:=hV
 rw[hp]at hA'
 obtain ⟨v0,d0,rfl,rfl,h0⟩:=trodAll_one hA'
 obtain ⟨g,rfl⟩:∃g,gs= [g]:=by
  rw[hv]at hV'
  obtain ⟨_,_,_,_,d,_,rfl,_⟩:=trodVars_one hV'
  exact ⟨d,rfl⟩
 have e:s.fn H ([d0]++ [g])= { results:= [.lit (.bool true)],args:= [d0],vars:= [g] }:=hs _ _
 have l0:∀x∈p,x.block<W.heap.size:=fun x hx=>by simpa using hlt x (by simp[hx])
 refine ⟨_,_,_,[],p,q,hW',?_,?_,?_,Below.frame hb _,fun h=>by cases h⟩
 ·rw[e,hr]
  exact trodAll_mk1 (shut_bool Tryz.underlying4 true)
 ·rw[e,hp]
  exact trodAll_mk1 (Below.trod laidOut (by kernel_rfl) (of_decide_eq_true (by kernel_rfl)) h0 hb l0)
 ·rw[e]
  rw[hv]at hV' ⊢
  exact vars_stay hb (fun x hx=>by simpa using hlt x (by simp[hx])) hV'
theorem lifted3 (os:Os) (started:os.Started) (H:Type) (enc:TypeId×Value→H):
  ReturnsInHanded {} Tryz.checked os 3 .any (fun w args=>(Rows.fnMapG2Spec.pre enc Tryz.prog Tryz.f3 [] false w args∧laidMetH Tryz.prog laidK w)∧sizedMet enc Tryz.prog Tryz.f3 (OpenSpec.ofChange Rows.fnMapG2Spec) false w args)
   (Rows.fnMapG2Spec.post enc Tryz.prog Tryz.f3 false true false false):=by
 refine returnsInHanded_of_change_and (C:=Tryz.checked) (X:=fun w _=>laidMetH Tryz.prog laidK w) (fun _ _ _ hh h=>h.of_heap hh) own started (by kernel_rfl) Tryz.func3
  (ChangeSpec.witness_shaped (enc:=enc) (C:=Tryz.checked) (os:=os) (X:=fun w _=>laidMetH Tryz.prog laidK w) false (World.doorLaid Tryz.prog 2000 os) #[.agg #[.int .u64 0,.int .u64 0,.int .u64 0,.int .u64 0,.int .u64 0,.int .u64 0,.int .u64 0,.int .u64 0]] 8 rfl (World.shaped_of_RefB (by kernel_rfl) (by kernel_rfl)) (by kernel_rfl) (by kernel_rfl) (by kernel_rfl) (door_met os _)) ?_
 intro W base args ds gs before hval hW _ _ _ _
 have hW':=hW
 obtain ⟨p,q,hA0,_,_,_,_⟩:=hW
 have hA:DataW.TrodAll enc Tryz.prog W 0 (fun _=>true) true Tryz.f3.params.toList args.toList ds p:=hA0
 rw[Tryz.params3]at hA hval
 obtain ⟨v0,d0,rfl,rfl,h0⟩:=trodAll_one hA
 obtain ⟨n0,n1,n2,n3,n4,n5,n6,n7,rfl,hw⟩:=open8 (hval 0 25 v0 rfl rfl) h0
 refine (run_law hw).mono fun e W' ⟨he,hb⟩=> ?_
 exact ⟨_,he,post_law Tryz.params3 rfl rfl (fun _ _=>rfl) hW' hb⟩
theorem fnMapG2_holds:Rows.FnMapG2Said:=
 OpenClaim.holds_of_wide 3 Tryz.f3 rfl rfl rfl rfl rfl rfl rfl ⟨rfl,rfl,rfl,rfl,rfl⟩ rfl rfl rfl rfl rfl (by kernel_rfl) Tryz.func3 (by kernel_rfl)
  (of_decide_eq_true (by kernel_rfl)) (by unfold Func.isWrapper;first | (rw[if_pos (by decide +kernel)];kernel_rfl) | (rw[if_neg (by decide +kernel)];exact ⟨rfl,rfl⟩))
  (fun os started H enc _=>lifted3 os started H enc)
theorem fnMapG2_card_holds:Rows.FnMapG2CardSaid:=
 Claim7.holds_tied_plain_at .later [] [.sentinel] true (true, "247525072b6bbdab26aeb6f857caaaf905541120990393399139d5964a8e0e5f") false
  fnMapG2_holds (fun _ h=>by cases h) (by kernel_rfl) (fun _ h=>by cases h) fnMapG2_row_tie rfl ⟨rfl,rfl⟩ (by kernel_rfl) rfl
  (fun f fn hf hfn=>by
   obtain rfl:f=3:=Option.some.inj ((show Tryz.prog.funcNamed "loop.example/pub-g03347/laws.FnMapG2" =some 3 by kernel_rfl).symm.trans hf) |>.symm
   obtain rfl:fn=Tryz.f3:=(Option.some.inj (Tryz.func3.symm.trans hfn)).symm
   exact ⟨by kernel_rfl,fun j t ht=>by
    rw[Tryz.params3]at ht
    have hm:t∈[25]:=by simpa using Array.mem_of_getElem? ht
    have hall:([25].all fun u=> !Tryz.prog.wantsStandIn u)=true:=by kernel_rfl
    exact (show Tryz.prog.wantsStandIn t=false by simpa using List.all_eq_true.1 hall t hm)⟩)
  (by kernel_rfl)
#print axioms fnMapG2_card_holds
end Go.Proofs.YtajbcjgonpoojaaGreatDoor
