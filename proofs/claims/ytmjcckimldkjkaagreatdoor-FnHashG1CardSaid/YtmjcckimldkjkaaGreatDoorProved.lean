/- Part 6 of the proof: for every message and domain the law FnHashG1 returns true (a verified symbolic evaluator, contracts of each function reached, the law, its row and card). Conditions: those of the given statement, none besides. -/
import Derived.Test.YtmjcckimldkjkaaGreatDoorRows
import Derived.Test.YtmjcckimldkjkaaGreatDoorTie
import Derived.Test.YtmjcckimldkjkaaGreatDoorCards
import Derived.ProofKit
import Derived.LaidMore
import Derived.LaidLaws
import Derived.LaidHandle
import Derived.MakeChecks
import Derived.OpenShut
import Derived.Carry
import Derived.Stop.Joined
import Derived.SevenTiedAt
import Derived.Test.YtmjcckimldkjkaaGreatDoorSx5
namespace Go.Proofs.YtmjcckimldkjkaaGreatDoor
open Go Go.Sx Go.ChangeShapes Go.WideShapes Go.RowKit
set_option maxRecDepth 100000
set_option maxHeartbeats 4000000
theorem own:ownKnob Tryz.prog.godebug=none:=by kernel_rfl
theorem laidOut:laidOutB Tryz.prog=true:=by kernel_rfl
theorem cells5:Tryz.prog.cellsOf 5=1:=by kernel_rfl
theorem cellsU:Tryz.prog.cellsOf 90=1:=by kernel_rfl
theorem cellsA:Tryz.prog.cellsOf 120=64:=by kernel_rfl
theorem gK:Tryz.prog.globalNamed "loop.example/pub-g03347/pub/sha256._K" =some 1:=by kernel_rfl
theorem tK:(Tryz.prog.globals[1]?).map (·.type)=some 120:=by kernel_rfl
theorem gE:Tryz.prog.globalNamed "loop.example/pub-g03347/pub/gnarkcrypto/ecc/bn254/fp.errInvalidEncoding" =some 0:=by kernel_rfl
theorem tE:(Tryz.prog.globals[0]?).map (·.type)=some 38:=by kernel_rfl
def laidK:List (String×DataW Unit):= [("loop.example/pub-g03347/pub/sha256._K",Rows.laid_loop_example_pub_g03347_pub_sha256_K),("loop.example/pub-g03347/pub/gnarkcrypto/ecc/bn254/fp.errInvalidEncoding",Rows.laid_loop_example_pub_g03347_pub_gnarkcrypto_ecc_bn254_fp_errInvalidEncoding)]
theorem bsl_of {H:Type} {enc:TypeId×Value→H} {W:World} {base:Nat} {v:Value} {d:DataW H} {ps:List MemPlace} (hval:Value.okWide Tryz.prog W .any base 22 v)
  (h:DataW.Trod enc Tryz.prog W 0 (fun _=>true) true 22 v d ps):BSl W v:=by
 obtain ⟨a,len,cap,rfl⟩:=okWide_slice Tryz.underlying22 hval
 obtain ⟨fuel,hf⟩:=h
 rcases open_ints Tryz.underlying22 Tryz.underlying5 cells5 hf with ⟨hc,_⟩ | ⟨a',len',cap',zs,hc,_,hle,_,hzl,_,hcells,hwf⟩
 ·left
  simpa [Value.cells]using hc
 ·right
  simp only[Value.cells,List.cons.injEq,and_true,Value.slice.injEq]at hc
  obtain ⟨rfl,rfl,rfl⟩:=hc
  simp only[Value.okWide,Tryz.underlying22,Cell.okWide,Cell.ok]at hval
  obtain ⟨_,_,_,hspot,row,cells,hsh,_⟩:=hval
  obtain ⟨b,o,sp⟩:=a'
  simp only at hspot
  subst hspot
  simp only[if_true]at hzl
  have hb:∃arr t fz,W.heap[b]? =some (.cells arr t fz):=by
   unfold World.shape? at hsh
   split at hsh
   ·rename_i c t fz he
    exact ⟨c,t,fz,he⟩
   ·cases hsh
  obtain ⟨arr,t,fz,he⟩:=hb
  refine ⟨b,o,len,cap,zs,arr,t,fz,rfl,he,hzl,hle,fun x hx=> ?_,fun i u hu=> ?_⟩
  ·have:=bounds_u8 (hwf x hx)
   omega
  ·rw[List.getElem?_map]at hu
   cases hz:zs[i]? with
   | none=>rw[hz]at hu;cases hu
   | some z=>
    rw[hz]at hu
    have hi:i<zs.length:=(List.getElem?_eq_some_iff.1 hz).1
    have:=hcells i hi
    have hz2:zs.getD i 0=z:=by simp[List.getD_eq_getElem?_getD,hz]
    rw[hz2]at this
    have hadd:(⟨b,o,none⟩:Addr).add i=⟨b,o+i,none⟩:=by
     unfold Addr.add
     split
     ·rename_i h0;subst h0;rfl
     ·rfl
    rw[hadd]at this
    unfold World.cell? at this
    simp only[he]at this
    rw[←hu]
    exact this
theorem krow_of {W:World} (h:laidMetH Tryz.prog laidK W):KRow W:=by
 rw[MakeChecks.laidMetH_plain _ _ _ (by kernel_rfl)]at h
 obtain ⟨ps,⟨g0,t0,cs0,f0,p0,q0,hg0,ht0,hv0,hd0,_,_⟩,_,_⟩:=h
 obtain rfl:=Option.some.inj (gK.symm.trans hg0)
 obtain rfl:=Option.some.inj (tK.symm.trans ht0)
 have hb:∃t fz,W.heap[1]? =some (.cells cs0 t fz):=by
  unfold World.var? at hv0
  rw[gK]at hv0
  simp only[Option.bind_some]at hv0
  split at hv0
  ·rename_i c t fz he
   exact ⟨t,fz,by rw[he,Option.some.inj hv0]⟩
  ·cases hv0
 obtain ⟨t,fz,he⟩:=hb
 refine ⟨cs0,t,fz,he,fun i u hu=> ?_⟩
 obtain ⟨xs,m,_,hx,hlen,hn,hel⟩:=DataW.trod_array Tryz.underlying120 hd0
 rw[cellsA]at hlen
 rw[List.getElem?_map]at hu
 cases hz:kL[i]? with
 | none=>rw[hz]at hu;cases hu
 | some z=>
  rw[hz]at hu
  have hu:Value.int .u32 z=u:=Option.some.inj hu
  have hi:i<64:=(List.getElem?_eq_some_iff.1 hz).1
  have h1:=hel i hi
  rw[cellsU,Nat.mul_one]at h1
  obtain ⟨y,hy⟩:∃y,xs[i]? =some y:=⟨xs[i],List.getElem?_eq_getElem (by omega)⟩
  rw[hy]at h1
  obtain ⟨k,e1,e2,_⟩:=DataW.trod_int Tryz.underlying90 h1
  have hc:cs0.toList[i]? =some (.int .u32 k):=by
   have:((cs0.toList.drop i).take 1)[0]? =some (.int .u32 k):=by rw[e1];rfl
   simpa using this
  have hd:Rows.laid_loop_example_pub_g03347_pub_sha256_K (H:=Unit)= .agg (kL.map fun x=> .lit (.int .u32 x)):=rfl
  simp only[Prod.mk.injEq]at hx
  rw[hd]at hx
  have hxx:=DataW.agg.inj hx.1
  have h2:(kL.map fun x=>(DataW.lit (.int .u32 x):DataW Unit))[i]? =(xs.map (·.1))[i]? :=by rw[hxx]
  rw[List.getElem?_map,List.getElem?_map,hz,hy,e2]at h2
  have h3:z=k:=by simpa using h2
  rw[Nat.zero_add,←hu,h3]
  simpa using hc
theorem door_met (os:Os) (args:Array Value):laidMetH Tryz.prog laidK ((World.doorLaid Tryz.prog 2000 os).forCall (fun _ _=>0) ⟨#[],args,[]⟩).memory:=
 laidMetH_of_parts3 (fuel:=8) (laidMet_of_run' 8 (by kernel_rfl) (by kernel_rfl)) (by kernel_rfl) (by kernel_rfl)
theorem var_step {H:Type} {enc:TypeId×Value→H} {W W':World} {n:String} {g:Nat} {t:TypeId} {ns:List String} {d:DataW H} {ds:List (DataW H)} {q:List MemPlace} (hg:Tryz.prog.globalNamed n=some g) (ht:(Tryz.prog.globals[g]?).map (·.type)=some t)
  (hr:Tryz.prog.readableRec t=true) (hs:t<Tryz.prog.types.size) (hb:Below W.heap.size W W') (hlt:∀x∈q,x.block<W.heap.size)
  (hn:∀q',(∀x∈q',x.block<W.heap.size)→DataW.TrodVars enc Tryz.prog W (fun _=>true) ns ds q'→DataW.TrodVars enc Tryz.prog W' (fun b=>decide (b<W.heap.size)) ns ds q')
  (h:DataW.TrodVars enc Tryz.prog W (fun _=>true) (n::ns) (d::ds) q):DataW.TrodVars enc Tryz.prog W' (fun b=>decide (b<W.heap.size)) (n::ns) (d::ds) q:=by
 obtain ⟨g',t',cs,fuel,p,r,h1,h2,h3,h4,hs',e⟩:=h
 obtain rfl:=Option.some.inj (hg.symm.trans h1)
 obtain rfl:=Option.some.inj (ht.symm.trans h2)
 have hp:∀x∈p,x.block<W.heap.size:=fun x hx=>hlt x (by rw[e];simp[hx])
 have hq:∀x∈r,x.block<W.heap.size:=fun x hx=>hlt x (by rw[e];simp[hx])
 obtain ⟨fuel',h4'⟩:=Below.trod (v:= .agg cs) laidOut hr hs ⟨fuel,h4⟩ hb hp
 have h3':W'.var? Tryz.prog n=some cs:=by
  unfold World.var? at h3 ⊢
  rw[hg]at h3 ⊢
  simp only[Option.bind_some]at h3 ⊢
  have h0:g<W.heap.size:=by
   cases hh:W.heap[g]? with
   | none=>rw[hh]at h3;cases h3
   | some o=>exact (Array.getElem?_eq_some_iff.1 hh).1
  rw[hb.block g h0]
  exact h3
 exact ⟨g,t,cs,fuel',p,r,hg,ht,h3',h4',hn r hq hs',e⟩
theorem vars_stay {H:Type} {enc:TypeId×Value→H} {W W':World} {d e:DataW H} {q:List MemPlace} (hb:Below W.heap.size W W') (hlt:∀x∈q,x.block<W.heap.size)
  (h:DataW.TrodVars enc Tryz.prog W (fun _=>true) ["loop.example/pub-g03347/pub/sha256._K", "loop.example/pub-g03347/pub/gnarkcrypto/ecc/bn254/fp.errInvalidEncoding"] [d,e] q):DataW.TrodVars enc Tryz.prog W' (fun b=>decide (b<W.heap.size)) ["loop.example/pub-g03347/pub/sha256._K", "loop.example/pub-g03347/pub/gnarkcrypto/ecc/bn254/fp.errInvalidEncoding"] [d,e] q:=
 var_step gK tK (by kernel_rfl) (of_decide_eq_true (by kernel_rfl)) hb hlt (fun _ hq' h'=>var_step gE tE (by kernel_rfl) (of_decide_eq_true (by kernel_rfl)) hb hq' (fun _ _ h''=>h'') h') h
theorem post_law {H:Type} {enc:TypeId×Value→H} {fn:Func} {s:ChangeSpec} {W W':World} {args:Array Value} {ds gs:List (DataW H)} {before:List MemPlace}
  (hp:fn.params= #[22,22]) (hr:fn.resultTypes= #[4]) (hv:s.vars= ["loop.example/pub-g03347/pub/sha256._K", "loop.example/pub-g03347/pub/gnarkcrypto/ecc/bn254/fp.errInvalidEncoding"])
  (hs:∀d1 d2 g1 g2:DataW H,s.fn H [d1,d2,g1,g2]= { results:= [.lit (.bool true)],args:= [d1,d2],vars:= [g1,g2] })
  (hW:DataW.Whole enc Tryz.prog fn.params.toList s.vars false W args.toList ds gs before) (hb:Below W.heap.size W W'):
  s.post enc Tryz.prog fn false true false false W args (.bool true) W':=by
 have hlt:=hW.lt
 have hW':=hW
 obtain ⟨p,q,hA,hV,rfl,hfz,hnd⟩:=hW
 have hA':DataW.TrodAll enc Tryz.prog W 0 (fun _=>true) true fn.params.toList args.toList ds p:=hA
 have hV':DataW.TrodVars enc Tryz.prog W (fun _=>true) s.vars gs q:=hV
 rw[hp]at hA'
 obtain ⟨v0,v1,d0,d1,p0,p1,rfl,rfl,rfl,h0,h1⟩:=trodAll_two hA'
 obtain ⟨g,g',rfl⟩:∃g g',gs= [g,g']:=by
  rw[hv]at hV'
  obtain ⟨_,_,_,_,d,_,_,_,_,_,d',_,rfl,_⟩:=trodVars_two hV'
  exact ⟨d,d',rfl⟩
 have e:s.fn H ([d0,d1]++ [g,g'])= { results:= [.lit (.bool true)],args:= [d0,d1],vars:= [g,g'] }:=hs _ _ _ _
 have l0:∀x∈p0,x.block<W.heap.size:=fun x hx=>by simpa using hlt x (by simp[hx])
 have l1:∀x∈p1,x.block<W.heap.size:=fun x hx=>by simpa using hlt x (by simp[hx])
 refine ⟨_,_,_,[],p0++p1,q,hW',?_,?_,?_,Below.frame hb _,fun h=>by cases h⟩
 ·rw[e,hr]
  exact trodAll_mk1 (shut_bool Tryz.underlying4 true)
 ·rw[e,hp]
  exact trodAll_mk2 (Below.trod laidOut (by kernel_rfl) (of_decide_eq_true (by kernel_rfl)) h0 hb l0) (Below.trod laidOut (by kernel_rfl) (of_decide_eq_true (by kernel_rfl)) h1 hb l1)
 ·rw[e]
  rw[hv]at hV' ⊢
  exact vars_stay hb (fun x hx=>by simpa using hlt x (by simp[hx])) hV'
theorem lifted4 (os:Os) (started:os.Started) (H:Type) (enc:TypeId×Value→H):
  ReturnsInHanded {} Tryz.checked os 4 .any (fun w args=>(Rows.fnHashG1Spec.pre enc Tryz.prog Tryz.f4 [] false w args∧laidMetH Tryz.prog laidK w)∧sizedMet enc Tryz.prog Tryz.f4 (OpenSpec.ofChange Rows.fnHashG1Spec) false w args)
   (Rows.fnHashG1Spec.post enc Tryz.prog Tryz.f4 false true false false):=by
 refine returnsInHanded_of_change_and (C:=Tryz.checked) (X:=fun w _=>laidMetH Tryz.prog laidK w) (fun _ _ _ hh h=>h.of_heap hh) own started (by kernel_rfl) Tryz.func4
  (ChangeSpec.witness_shaped (enc:=enc) (C:=Tryz.checked) (os:=os) (X:=fun w _=>laidMetH Tryz.prog laidK w) false (World.doorLaid Tryz.prog 2000 os) #[.slice none 0 0,.slice none 0 0] 8 rfl (World.shaped_of_RefB (by kernel_rfl) (by kernel_rfl)) (by kernel_rfl) (by kernel_rfl) (by kernel_rfl) (door_met os _)) ?_
 intro W base args ds gs before hval hW _ _ hL _
 have hW':=hW
 obtain ⟨p,q,hA0,_,_,_,_⟩:=hW
 have hA:DataW.TrodAll enc Tryz.prog W 0 (fun _=>true) true Tryz.f4.params.toList args.toList ds p:=hA0
 rw[Tryz.params4]at hA hval
 obtain ⟨v0,v1,d0,d1,p0,p1,rfl,rfl,rfl,h0,h1⟩:=trodAll_two hA
 refine (run_law Tryz.func4 walks4 (krow_of hL) (bsl_of (hval 0 22 v0 rfl rfl) h0) (bsl_of (hval 1 22 v1 rfl rfl) h1)).mono fun e W' ⟨he,hb⟩=> ?_
 exact ⟨_,he,post_law Tryz.params4 rfl rfl (fun _ _ _ _=>rfl) hW' hb⟩
theorem fnHashG1_holds:Rows.FnHashG1Said:=
 OpenClaim.holds_of_wide 4 Tryz.f4 rfl rfl rfl rfl rfl rfl rfl ⟨rfl,rfl,rfl,rfl,rfl⟩ rfl rfl rfl rfl rfl (by kernel_rfl) Tryz.func4 (by kernel_rfl)
  (of_decide_eq_true (by kernel_rfl)) (by unfold Func.isWrapper;first | (rw[if_pos (by decide +kernel)];kernel_rfl) | (rw[if_neg (by decide +kernel)];exact ⟨rfl,rfl⟩))
  (fun os started H enc _=>lifted4 os started H enc)
theorem fnHashG1_card_holds:Rows.FnHashG1CardSaid:=
 Claim7.holds_tied_plain_at .later [] [.data,.sentinel] true (true, "3ab755af3ec8d11c1f3127e4ec919e927d005ad2136d2a596c9207e856116a11") false
  fnHashG1_holds (fun _ h=>by cases h) (by kernel_rfl) (fun _ h=>by cases h) fnHashG1_row_tie rfl ⟨rfl,rfl⟩ (by kernel_rfl) rfl
  (fun f fn hf hfn=>by
   obtain rfl:f=4:=Option.some.inj ((show Tryz.prog.funcNamed "loop.example/pub-g03347/laws.FnHashG1" =some 4 by kernel_rfl).symm.trans hf) |>.symm
   obtain rfl:fn=Tryz.f4:=(Option.some.inj (Tryz.func4.symm.trans hfn)).symm
   exact ⟨by kernel_rfl,fun j t ht=>by
    rw[Tryz.params4]at ht
    have hm:t∈[22,22]:=by simpa using Array.mem_of_getElem? ht
    have hall:([22,22].all fun u=> !Tryz.prog.wantsStandIn u)=true:=by kernel_rfl
    exact (show Tryz.prog.wantsStandIn t=false by simpa using List.all_eq_true.1 hall t hm)⟩)
  (by kernel_rfl)
#print axioms fnHashG1_card_holds
end Go.Proofs.YtmjcckimldkjkaaGreatDoor
