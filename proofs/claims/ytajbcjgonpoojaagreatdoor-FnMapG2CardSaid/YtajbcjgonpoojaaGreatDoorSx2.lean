/- Part 2 of the proof: for every number of E2 (two rows of four words) the law FnMapG2 returns true (a verified symbolic evaluator, contracts of each function reached, the law, its row and card). Conditions: those of the given statement, none besides. -/
import Derived.LoopN
import Derived.Test.YtajbcjgonpoojaaGreatDoorProg
import Derived.KernelRfl
import Derived.Test.YtajbcjgonpoojaaGreatDoorSx1
namespace Go.Sx
open Go
theorem odd_rid (r:Nat) (h:r%2≠0):∃n j,j<4∧r=rid n j:=⟨r / 8,(r%8) / 2,by omega,by unfold rid;omega⟩
theorem le_cutEnv {β β':Env} {nr k:Nat} {ρ:List (Nat×Nat)} (h:EnvLe β β') (hf:∀n,nr≤n→Fresh β n) (hρ:ρ.all (fun x=>ownId nr k x.1)=true):EnvLe β (cutEnv β' (nr+k) ρ):=fun r x hx=>by
 have hlow:r<rid nr 0∨r%2=0:=by
  rcases Nat.lt_or_ge r (rid nr 0)with hlt | hge
  ·exact .inl hlt
  ·refine .inr ?_
   rcases Nat.eq_zero_or_pos (r%2)with h0 | h0
   ·exact h0
   ·exfalso
    obtain ⟨n,j,hj,rfl⟩:=odd_rid r (by omega)
    have:=hf n (by unfold rid at hge;omega) j hj
    rw[this]at hx
    cases hx
 unfold cutEnv
 rw[if_pos (hlow.imp_left fun h=>by unfold rid at h ⊢;omega),renId_other hρ]
 ·exact h r x hx
 ·unfold ownId
  rcases hlow with hl | hl
  ·have:Nat.ble (rid nr 0) r=false:=by
    cases hb:Nat.ble (rid nr 0) r with
    | false=>rfl
    | true=>have:=Nat.le_of_ble_eq_true hb;omega
   rw[this];simp
  ·rw[hl];rfl
theorem fresh_cutEnv {β:Env} {nr:Nat} {ρ:List (Nat×Nat)}:∀n,nr≤n→Fresh (cutEnv β nr ρ) n:=fun n hn j hj=>by
 unfold cutEnv
 rw[if_neg]
 unfold rid
 omega
section
variable {P:Program} {Γ:Cx P} {T:Nat→Nat→Prop} {w0:World}
def Post (β:Env) (T:Nat→Nat→Prop) (w0:World) (nr nt:Nat) (K:Ex→St→Prop) (Q:Exit→Act→World→Prop):Prop:=
 ∀e st' β' a' w',EnvLe β β'→Rel β' T w0 st' a' w'→nr≤st'.nr→st'.nt=nt→(∀n,st'.nr≤n→Fresh β' n)→K e st'→Q e.toExit a' w'
theorem Post.later {β β':Env} {nr nr' nt:Nat} {K:Ex→St→Prop} {Q:Exit→Act→World→Prop} (h:Post β T w0 nr nt K Q) (hle:EnvLe β β') (hn:nr≤nr'):Post β' T w0 nr' nt K Q:=
 fun e st' β'' a' w' h1 h2 h3 h4 h5 h6=>h e st' β'' a' w' (hle.trans h1) h2 (Nat.le_trans hn h3) h4 h5 h6
theorem unroll_sound {c:Code} {f:St→(Ex→St→Prop)→Prop} {nt:Nat}
  (hf:∀(β:Env) (st:St) (a:Act) (w:World) (K:Ex→St→Prop) (Q:Exit→Act→World→Prop),Rel β T w0 st a w→st.nt=nt→(∀n,st.nr≤n→Fresh β n)→f st K→Post β T w0 st.nr nt K Q→c.wp P Q a w):
  ∀(n:Nat) (β:Env) (st:St) (a:Act) (w:World) (K:Ex→St→Prop) (Q:Exit→Act→World→Prop),Rel β T w0 st a w→st.nt=nt→(∀n,st.nr≤n→Fresh β n)→unroll f n st K→Post β T w0 st.nr nt K Q→Code.rounds P c Q n a w
 | 0,_,_,_,_,_,_,_,_,_,h,_=>h.elim
 | n+1,β,st,a,w,K,Q,hrel,hnt,hfr,h,hQ=>by
  refine hf β st a w _ _ hrel hnt hfr h ?_
  intro e st' β' a' w' h1 h2 h3 h4 h5 h6
  cases e with
  | normal=>exact unroll_sound hf n β' st' a' w' K Q h2 h4 h5 h6 (hQ.later h1 h3)
  | exit id=>exact hQ _ st' β' a' w' h1 h2 h3 h4 h5 h6
  | ret=>exact hQ _ st' β' a' w' h1 h2 h3 h4 h5 h6
theorem rounds_arrives {Q:Exit→Act→World→Prop} {c:Code} {b k cs}:∀n a w,Code.rounds P c Q n a w→
  ∃e a' w',Q e a' w'∧Arrives P (lone (b.at a (.code c:: .inLoop c::k)) cs w) b k cs e a' w'
 | 0,_,_,h=>h.elim
 | n+1,a,w,h=>by
  obtain ⟨e,a₁,w₁,hq,harr⟩:=h b (.inLoop c::k) cs
  cases e with
  | normal=>
   obtain ⟨e₂,a₂,w₂,hq₂,harr₂⟩:=rounds_arrives n a₁ w₁ hq
   exact ⟨e₂,a₂,w₂,hq₂,.of_steps (Steps.trans harr (.one step_inLoop)) harr₂⟩
  | exit id=>exact ⟨_,a₁,w₁,hq,.pass (x:= .inLoop c) rfl (fun _ _=> .inl (by simp)) harr⟩
  | goto l=>exact ⟨_,a₁,w₁,hq,.pass (x:= .inLoop c) rfl (fun _ _=> .inl (by simp)) harr⟩
  | ret=>exact ⟨_,a₁,w₁,hq,.pass (x:= .inLoop c) rfl (fun _ _=> .inl (by simp)) harr⟩
  | panic ch=>exact ⟨_,a₁,w₁,hq,.pass (x:= .inLoop c) rfl (fun _ _=> .inl (by simp)) harr⟩
  | outgrown=>exact ⟨_,a₁,w₁,hq,.pass (x:= .inLoop c) rfl (fun _ _=> .inl (by simp)) harr⟩
theorem wp_peel {Q:Exit→Act→World→Prop} {a:Act} {w:World} {c:Code} (h:c.wp P (Exit.then (fun a w=>∃n,Code.rounds P c Q n a w) Q) a w):(Code.loop c).wp P Q a w:=by
 intro b k cs
 obtain ⟨e,a₁,w₁,hq,harr⟩:=h b (.inLoop c::k) cs
 cases e with
 | normal=>
  obtain ⟨n,hn⟩:=hq
  obtain ⟨e₂,a₂,w₂,hq₂,harr₂⟩:=rounds_arrives n a₁ w₁ hn
  exact ⟨e₂,a₂,w₂,hq₂,.of_steps (.one step_loop) (.of_steps (Steps.trans harr (.one step_inLoop)) harr₂)⟩
 | exit id=>exact ⟨_,a₁,w₁,hq,.of_steps (.one step_loop) (.pass (x:= .inLoop c) rfl (fun _ _=> .inl (by simp)) harr)⟩
 | goto l=>exact ⟨_,a₁,w₁,hq,.of_steps (.one step_loop) (.pass (x:= .inLoop c) rfl (fun _ _=> .inl (by simp)) harr)⟩
 | ret=>exact ⟨_,a₁,w₁,hq,.of_steps (.one step_loop) (.pass (x:= .inLoop c) rfl (fun _ _=> .inl (by simp)) harr)⟩
 | panic ch=>exact ⟨_,a₁,w₁,hq,.of_steps (.one step_loop) (.pass (x:= .inLoop c) rfl (fun _ _=> .inl (by simp)) harr)⟩
 | outgrown=>exact ⟨_,a₁,w₁,hq,.of_steps (.one step_loop) (.pass (x:= .inLoop c) rfl (fun _ _=> .inl (by simp)) harr)⟩
theorem inv_sound {U:Nat→Lp} {c:Code} {cur:Nat} {li:LI}
  (ih:∀(cur:Nat) (st:St) (K:Ex→St→Prop) (Q:Exit→Act→World→Prop) (a:Act) (w:World) (β:Env),Rel β T w0 st a w→(∀n,st.nr≤n→Fresh β n)→exec Γ U c cur st K→Post β T w0 st.nr st.nt K Q→c.wp P Q a w)
  {st:St} {K:Ex→St→Prop} {Q:Exit→Act→World→Prop} {a:Act} {w:World} {β:Env} (hrel:Rel β T w0 st a w) (hfr:∀n,st.nr≤n→Fresh β n)
  (h:(∃i0,li.I st i0∧St.le st st.nr li.k (li.head st i0))∧
    ∀i,li.I st i→exec Γ U c cur ((li.head st i).st st li.k) fun e st'=>
     match e with
     | .normal=>∃i',li.I st i'∧St.le st' st.nr li.k (li.head st i')∧li.μ i'<li.μ i
     | e=>K e st') (hQ:Post β T w0 st.nr st.nt K Q):∃n,Code.rounds P c Q n a w:=by
 obtain ⟨⟨i0,hI0,hle0⟩,hround⟩:=h
 have key:∀(n:Nat) (i:li.ι) (st':St) (β':Env) (a':Act) (w':World),li.μ i<n→li.I st i→EnvLe β β'→Rel β' T w0 st' a' w'→st'.nt=st.nt→St.le st' st.nr li.k (li.head st i)→Code.rounds P c Q n a' w':=by
  intro n
  induction n with
  | zero=>intro i _ _ _ _ hlt;omega
  | succ n ihn=>
   intro i st' β' a' w' hlt hI hle hrel' hnt hst
   obtain ⟨ρ,hρ,hrel2⟩:=hrel'.head (st0:=st) hnt hst
   refine ih cur ((li.head st i).st st li.k) _ _ a' w' (cutEnv β' (st.nr+li.k) ρ) hrel2 fresh_cutEnv (hround i hI) ?_
   intro e st2 β2 a2 w2 h1 h2 h3 h4 h5 h6
   have hle2:EnvLe β β2:=(le_cutEnv hle hfr hρ).trans h1
   cases e with
   | normal=>
    obtain ⟨i',hI',hle',hμ⟩:=h6
    exact ihn i' st2 β2 a2 w2 (by omega) hI' hle2 h2 h4 hle'
   | exit id=>exact hQ _ st2 β2 a2 w2 hle2 h2 (Nat.le_trans (Nat.le_add_right _ _) h3) h4 h5 h6
   | ret=>exact hQ _ st2 β2 a2 w2 hle2 h2 (Nat.le_trans (Nat.le_add_right _ _) h3) h4 h5 h6
 exact ⟨_,key (li.μ i0+1) i0 st β a w (by omega) hI0 (EnvLe.refl _) hrel rfl hle0⟩
theorem exec_sound (hP:P.follows .mixedOrders=true) (U:Nat→Lp):∀(c:Code) (cur:Nat) (st:St) (K:Ex→St→Prop) (Q:Exit→Act→World→Prop) (a:Act) (w:World) (β:Env),
  Rel β T w0 st a w→(∀n,st.nr≤n→Fresh β n)→exec Γ U c cur st K→Post β T w0 st.nr st.nt K Q→c.wp P Q a w:=by
 intro c
 induction c with
 | skip=>intro cur st K Q a w β hrel hfr h hQ;exact wp_skip (hQ .normal st β a w (EnvLe.refl _) hrel (Nat.le_refl _) rfl hfr h)
 | label l=>intro cur st K Q a w β hrel hfr h hQ;exact wp_label (hQ .normal st β a w (EnvLe.refl _) hrel (Nat.le_refl _) rfl hfr h)
 | exit id=>intro cur st K Q a w β hrel hfr h hQ;exact wp_exit (hQ (.exit id) st β a w (EnvLe.refl _) hrel (Nat.le_refl _) rfl hfr h)
 | ret=>intro cur st K Q a w β hrel hfr h hQ;exact wp_ret (hQ .ret st β a w (EnvLe.refl _) hrel (Nat.le_refl _) rfl hfr h)
 | region id ops draw=>
  intro cur st K Q a w β hrel hfr h hQ
  have fin:∀(β':Env) (st':St) (a':Act) (w':World),EnvLe β β'→Rel β' T w0 st' a' w'→(st'.nr=st.nr∧st'.nt=st.nt)→(∀n,st.nr+ops.toList.length≤n→Fresh β' n)→
    K .normal { st' with nr:=st.nr+ops.toList.length }→Q .normal a' w':=fun β' st' a' w' h1 h2 h3 h4 h5=>
   hQ .normal { st' with nr:=st.nr+ops.toList.length } β' a' w' h1 ⟨h2.nt,h2.size,h2.defers,h2.slots,h2.mem,h2.glob⟩ (Nat.le_add_right _ _) h3.2 h4 h5
  cases draw with
  | true=>
   simp only[exec,cond_true]at h
   generalize hcl:classes Γ (frozen Γ st ops.toList) st.slots st.nr 0 ops.toList .leaf=cls at h
   generalize hb:(drawOk ops.toList 0 [] (cls.zip ops.toList) [] && Nat.blt (rid (st.nr+ops.toList.length) 3) 4194304)=bb at h
   cases bb with
   | false=>exact h.elim
   | true=>
    simp only[Bool.and_eq_true]at hb
    refine region_any (T:=T) (w0:=w0) (m0:=frozen Γ st ops.toList) (cls:=cls) (K:=fun st'=>K .normal { st' with nr:=st.nr+ops.toList.length }) hP (by rw[←hcl,classes_length]) (fun k o h1 h2=> ?_) hrel frozen_le hfr hb.1 hb.2 fin h
    rw[←hcl]at h1
    exact classes_makes _ _ _ k o h1 h2
  | false=>
   simp only[exec,cond_false]at h
   refine wp_region ?_
   have hl:((plain Γ ops.toList).zip ops.toList).length=ops.size:=by
    have:∀l:List Oper,(plain Γ l).length=l.length:=by
     intro l
     induction l with
     | nil=>rfl
     | cons o l ih=>simp[plain,ih]
    simp[this]
   rw[List.range_eq_range',←hl]
   refine region_text (T:=T) (w0:=w0) (K:=fun st'=>K .normal { st' with nr:=st.nr+ops.toList.length }) ((plain Γ ops.toList).zip ops.toList) 0 st a w β (fun k x hk=> ?_) hrel (memLe_leaf _) (fun n hn=>hfr n (by omega)) (fun β' st' a' w' h1 h2 h3 h4 h5=>fin β' st' a' w' h1 h2 h3 (fun n hn=>h4 n (by rw[hl];simpa using hn)) h5) h
   rw[List.getElem?_zip_eq_some]at hk
   rw[Nat.zero_add,←Array.getElem?_toList]
   exact hk.2
 | seq x y ihx ihy=>
  intro cur st K Q a w β hrel hfr h hQ
  refine wp_seq (ihx cur st _ _ a w β hrel hfr h ?_)
  intro e st' β' a' w' h1 h2 h3 h4 h5 h6
  cases e with
  | normal=>exact ihy cur st' K Q a' w' β' h2 h5 h6 (by rw[h4];exact hQ.later h1 h3)
  | exit id=>exact hQ _ st' β' a' w' h1 h2 h3 h4 h5 h6
  | ret=>exact hQ _ st' β' a' w' h1 h2 h3 h4 h5 h6
 | cond o x y ihx ihy=>
  intro cur st K Q a w β hrel hfr h hQ
  have he:=hrel.ev o
  simp only[exec]at h
  split at h
  ·rename_i ho
   rw[ho]at he
   simp only[Den,B.val]at he
   exact wp_cond_true he (ihx cur st K Q a w β hrel hfr h hQ)
  ·rename_i ho
   rw[ho]at he
   simp only[Den,B.val]at he
   exact wp_cond_false he (ihy cur st K Q a w β hrel hfr h hQ)
  ·rename_i b ho
   rw[ho]at he
   simp only[Den,B.val]at he
   exact wp_cond_split he (fun hb=>ihx cur st K Q a w β hrel hfr (h.1 hb) hQ) (fun hb=>ihy cur st K Q a w β hrel hfr (h.2 hb) hQ)
  ·exact h.elim
 | block id c ih=>
  intro cur st K Q a w β hrel hfr h hQ
  refine wp_block (ih id st _ _ a w β hrel hfr h ?_)
  intro e st' β' a' w' h1 h2 h3 h4 h5 h6
  cases e with
  | normal=>exact hQ _ st' β' a' w' h1 h2 h3 h4 h5 h6
  | ret=>exact hQ _ st' β' a' w' h1 h2 h3 h4 h5 h6
  | exit j=>
   simp only[Ex.toExit,Exit.inBlock]
   simp only at h6
   cases hj:Nat.beq j id with
   | true=>
    rw[hj]at h6
    have:=Nat.eq_of_beq_eq_true hj
    rw[if_pos this]
    exact hQ .normal st' β' a' w' h1 h2 h3 h4 h5 h6
   | false=>
    rw[hj]at h6
    rw[if_neg (fun e=>by rw[e,Nat.beq_refl]at hj;cases hj)]
    exact hQ (.exit j) st' β' a' w' h1 h2 h3 h4 h5 h6
 | loop c ih=>
  intro cur st K Q a w β hrel hfr h hQ
  simp only[exec]at h
  split at h
  ·obtain ⟨n,hn⟩:=inv_sound ih hrel hfr h hQ
   exact wp_loop_rounds n hn
  ·refine wp_loop_rounds _ (unroll_sound (T:=T) (w0:=w0) (nt:=st.nt) (fun β st a w K Q hrel hnt hfr h hQ=>ih cur st K Q a w β hrel hfr h (by rw[hnt];exact hQ)) _ β st a w K Q hrel rfl hfr h hQ)
  ·refine wp_peel (ih cur st _ _ a w β hrel hfr h ?_)
   intro e st1 β1 a1 w1 h1 h2 h3 h4 h5 h6
   cases e with
   | normal=>exact inv_sound ih h2 h5 h6 (by rw[h4];exact hQ.later h1 h3)
   | exit id=>exact hQ _ st1 β1 a1 w1 h1 h2 h3 h4 h5 h6
   | ret=>exact hQ _ st1 β1 a1 w1 h1 h2 h3 h4 h5 h6
 | rangeFunc f params assign body=>intro cur st K Q a w β hrel hfr h hQ;exact h.elim
 | scope c=>intro cur st K Q a w β hrel hfr h hQ;exact h.elim
 | goto l=>intro cur st K Q a w β hrel hfr h hQ;exact h.elim
 | refuse why=>intro cur st K Q a w β hrel hfr h hQ;exact h.elim
def resV (tmps:Array Value):ResultVar→Sem Value
 | .tmp t=>pure (tmps.getD t undef)
 | .cell a t=>do loadVar t (←asAddr (tmps.getD a undef))
theorem results_eq (fn:Func) (tmps:Array Value):results fn tmps=(do let vs ←fn.results.mapM (resV tmps);pure (if h:vs.size=1 then vs[0]else .tuple vs)):=by
 unfold results
 have:resV tmps=fun x=>(match x with | .tmp t=>pure (tmps.getD t undef) | .cell a t=>do loadVar t (←asAddr (tmps.getD a undef)):Sem Value):=by
  funext x;cases x<;>rfl
 rw[this]
 rfl
theorem resS_sound {β:Env} {st:St} {a:Act} {w:World} (h:Rel β T w0 st a w) {x:ResultVar} {p:Ob} {v:SV} (hx:resS P st x=some (p,v)) (hp:p.ok):
  ∃u,(resV a.tmps x).run P w= .ok u w∧Den β v u:=by
 cases x with
 | tmp t=>
  simp only[resS,Option.map_eq_some_iff,Prod.mk.injEq]at hx
  obtain ⟨s,h1,rfl,rfl⟩:=hx
  obtain ⟨u,h2,h3⟩:=h.slots t s h1
  refine ⟨u,?_,h3⟩
  simp[resV,Array.getD_eq_getD_getElem?,h2]
 | cell b t=>
  simp only[resS]at hx
  split at hx
  ·rename_i r o hs
   obtain ⟨u,h2,h3⟩:=h.slots b _ hs
   simp only[Den]at h3
   obtain ⟨bb,ob,hβ,rfl⟩:=h3
   have he:a.tmps.getD b undef= .pointer (some ⟨bb,ob+o.val,none⟩):=by simp[Array.getD_eq_getD_getElem?,h2]
   split at hx
   ·rename_i g n hg ha hn
    simp only[Option.map_eq_some_iff]at hx
    obtain ⟨⟨p',l⟩,h1,h4⟩:=hx
    simp only[Prod.mk.injEq]at h4
    obtain ⟨rfl,rfl⟩:=h4
    obtain ⟨b',o2,us,k1,k2,k3,k4⟩:=(h.mem.reg r g hg).cell h1 hp
    rw[hβ]at k1
    injection k1 with k1;injection k1 with e1 e2
    subst e1;subst e2
    refine ⟨.agg us.toArray,?_,by simp only[Den];exact ⟨us,k2,rfl⟩⟩
    simp only[resV,he,asAddr,Sem.run_bind,Sem.run_pure,Result.andThen_ok]
    exact run_loadVar_agg ha hn k3 k4
   ·rename_i g hg ha
    split at hx
    ·rename_i p' s h1
     simp only[Option.some.injEq,Prod.mk.injEq]at hx
     obtain ⟨rfl,rfl⟩:=hx
     obtain ⟨b',o2,us,k1,k2,k3,k4⟩:=(h.mem.reg r g hg).cell h1 hp
     rw[hβ]at k1
     injection k1 with k1;injection k1 with e1 e2
     subst e1;subst e2
     rw[DenL.cons']at k2
     obtain ⟨v',vs',rfl,hd,_⟩:=k2
     refine ⟨v',?_,hd⟩
     simp only[resV,he,asAddr,Sem.run_bind,Sem.run_pure,Result.andThen_ok]
     exact run_loadVar_one ha (k4 0 v' rfl)
    ·simp at hx
   ·simp at hx
  ·simp at hx
theorem ressS_sound {β:Env} {st:St} {a:Act} {w:World} (h:Rel β T w0 st a w):∀(l:List ResultVar) {p:Ob} {vs:List SV},ressS P st l=some (p,vs)→p.ok→
  ∃us,(l.mapM (resV a.tmps)).run P w= .ok us w∧DenL β vs us
 | [],p,vs,hx,_=>by
  simp only[ressS,Option.some.injEq,Prod.mk.injEq]at hx
  obtain ⟨rfl,rfl⟩:=hx
  exact ⟨[],by simp,by simp[DenL]⟩
 | x::l,p,vs,hx,hp=>by
  simp only[ressS]at hx
  split at hx
  ·rename_i p1 v q vs' h1 h2
   simp only[Option.some.injEq,Prod.mk.injEq]at hx
   obtain ⟨rfl,rfl⟩:=hx
   obtain ⟨hp1,hq⟩:=Ob.and_ok hp
   obtain ⟨u,k1,k2⟩:=resS_sound h h1 hp1
   obtain ⟨us,k3,k4⟩:=ressS_sound h l h2 hq
   refine ⟨u::us,?_,DenL.cons.2 ⟨k2,k4⟩⟩
   rw[List.mapM_cons]
   simp only[Sem.run_bind]
   rw[k1]
   simp only[Result.andThen_ok]
   rw[k3]
   rfl
  ·simp at hx
def Done (β:Env) (T:Nat→Nat→Prop) (w0:World) (K:SV→Mem→Prop):Ending→World→Prop:=
 fun e w'=>∃β' v sv m',EnvLe β β'∧e= .returned v∧Den β' sv v∧Holds β' T m' w0 w'∧K sv m'
theorem argSlots_get:∀(l:List SV) (i:Nat) (t:Tr SV) {j:Nat} {s:SV},(argSlots i l t).get j=some s→(∃k,j=i+k∧l[k]? =some s)∨t.get j=some s
 | [],_,_,_,_,h=> .inr h
 | v::l,i,t,j,s,h=>by
  rcases argSlots_get l (i+1) _ h with ⟨k,rfl,hk⟩ | h
  ·exact .inl ⟨k+1,by omega,by simpa using hk⟩
  ·rcases Tr.get_set h with ⟨rfl,rfl⟩ | ⟨_,h⟩
   ·exact .inl ⟨0,by omega,rfl⟩
   ·exact .inr h
theorem execF_sound (hP:P.follows .mixedOrders=true) {f:FuncId} {fn:Func} (hfn:P.funcs[f]? =some fn) {U:Nat→Lp} {nr:Nat} {args:List SV} {vs:List Value} {m:Mem}
  {K:SV→Mem→Prop} {β:Env} {w:World} (hH:Holds β T m w0 w) (hd:DenL β args vs) (hg:∀g,β (gid g)=some (g,0)) (hfr:∀n,nr≤n→Fresh β n)
  (h:execF Γ U fn nr args m K):Calls P f vs.toArray w (Done β T w0 K):=by
 unfold execF at h
 split at h
 ·exact h.elim
 rename_i c hc
 generalize hb:(!(Nat.ble fn.ntmps 4194304 && Nat.ble args.length fn.ntmps))=b at h
 cases b with
 | true=>exact h.elim
 | false=>
  simp only[cond_false]at h
  simp only[Bool.not_eq_false',Bool.and_eq_true,Nat.ble_eq]at hb
  have hlen:=DenL.length hd
  refine calls_of_wp hfn hc ?_
  refine exec_sound (Γ:=Γ) (T:=T) (w0:=w0) hP U c 0 _ _ _ _ _ β ?_ hfr h ?_
  ·refine ⟨hb.1,by simp;omega,rfl,fun i s hi=> ?_,hH,hg⟩
   rcases argSlots_get args 0 .leaf hi with ⟨k,rfl,hk⟩ | hi
   ·obtain ⟨v,h1,h2⟩:=hd.get hk
    refine ⟨v,?_,h2⟩
    have:=(List.getElem?_eq_some_iff.1 h1).1
    rw[Nat.zero_add,Array.getElem?_append,if_pos (by simpa using this)]
    simpa using h1
   ·rw[Tr.get_leaf]at hi;cases hi
  ·intro e st' β' a' w' h1 h2 h3 h4 h5 h6
   have fin:retS (P:=P) fn st' K→a'.defers= []∧∃v,(results fn a'.tmps).run P w'= .ok v w'∧Done β T w0 K (.returned v) w':=by
    intro hr
    refine ⟨h2.defers,?_⟩
    unfold retS at hr
    have gen:∀(p:Ob) (vs':List SV),ressS P st' fn.results.toList=some (p,vs')→p.ok→∃us,(fn.results.mapM (resV a'.tmps)).run P w'= .ok us w'∧DenL β' vs' us.toList:=by
     intro p vs' hx hp
     obtain ⟨us,k1,k2⟩:=ressS_sound h2 fn.results.toList hx hp
     refine ⟨us.toArray,?_,by simpa using k2⟩
     rw[Array.mapM_eq_mapM_toList]
     simp only[Sem.run_map,k1,Result.andThen_ok]
    split at hr
    ·rename_i p v hx
     rw[then_iff]at hr
     obtain ⟨us,k1,k2⟩:=gen p [v] hx hr.1
     have hl:=DenL.length k2
     obtain ⟨u,hu⟩:∃u,us= #[u]:=by
      match us,hl with
      | ⟨[u]⟩,_=>exact ⟨u,rfl⟩
     subst hu
     refine ⟨u,?_,β',u,v,_,h1,rfl,(DenL.cons.1 k2).1,h2.mem,hr.2⟩
     rw[results_eq]
     simp only[Sem.run_bind]
     rw[k1]
     rfl
    ·rename_i p vs' hne hx
     rw[then_iff]at hr
     obtain ⟨us,k1,k2⟩:=gen p vs' hx hr.1
     have hl:=DenL.length k2
     refine ⟨.tuple us,?_,β',_,.tup vs',_,h1,rfl,by simp only[Den];exact ⟨us.toList,k2,by simp⟩,h2.mem,hr.2⟩
     rw[results_eq]
     simp only[Sem.run_bind]
     rw[k1]
     simp only[Result.andThen_ok]
     rw[dif_neg]
     ·rfl
     ·intro h1
      match vs',hl,hne with
      | [],hl,_=>simp at hl;omega
      | [v],_,hne=>exact hne v rfl
      | v::v'::l,hl,_=>simp at hl;omega
    ·exact hr.elim
   cases e with
   | normal=>exact fin h6
   | ret=>exact fin h6
   | exit id=>exact h6.elim
end
structure Vw where
 q:Nat
 r:Nat
 o:N
 ro:Bool
 c:Ct
inductive Sh where
 | cells (n:Nat)
 | ints (k:IntKind) (n:Nat)
inductive Pt where
 | val
 | num
 | skip
 | ptr (n:Nat) (ro:Bool)
 | parts (sh:List Sh) (ro:Bool)
 | sl (s:Nat) (ro:Bool)
 | sls
mutual
def SV.pure:SV→Bool
 | .ptr _ _=>false
 | .slice _ _ _ _=>false
 | .iface _ v=>v.pure
 | .agg l=>pureL l
 | .tup l=>pureL l
 | _=>true
def pureL:List SV→Bool
 | []=>true
 | s::l=>s.pure && pureL l
 end
def pureSegs:List Sg→Bool
 | []=>true
 | .cells l::r=>pureL l && pureSegs r
 | .ints _ _ _::r=>pureSegs r
def Ct.pure:Ct→Bool
 | .cells l=>pureL l
 | .ints _ _=>true
 | .segs l=>pureSegs l
mutual
def SV.gen:SV→SV
 | .int k a=> .int k (.sym a.val)
 | .agg l=> .agg (genL l)
 | v=>v
def genL:List SV→List SV
 | []=> []
 | s::l=>s.gen::genL l
 end
def genSegs:List Sg→List Sg
 | []=> []
 | .cells l::r=> .cells (genL l)::genSegs r
 | .ints k n xs::r=> .ints k n xs::genSegs r
def Ct.gen:Ct→Ct
 | .cells l=> .cells (genL l)
 | .ints k xs=> .ints k xs
 | .segs l=> .segs (genSegs l)
def shLen:List Sh→Nat
 | []=>0
 | .cells n::l=>n+shLen l
 | .ints _ n::l=>n+shLen l
def cutSegs:List Sh→List SV→Option (List Sg)
 | [],[]=>some []
 | [],_=>none
 | .cells n::r,l=>bif Nat.ble n l.length then (cutSegs r (l.drop n)).map (.cells (genL (l.take n)):: ·)else none
 | .ints k n::r,l=>
  bif Nat.ble n l.length then
   match intsOf k (l.take n)with
   | some xs=>(cutSegs r (l.drop n)).map (.ints k n xs:: ·)
   | none=>none
  else none
def sameSh:List Sh→List Sg→Bool
 | [],[]=>true
 | .cells n::r,.cells l::s=>Nat.beq n l.length && sameSh r s
 | .ints k n::r,.ints k' n' _::s=>decide (k=k') && Nat.beq n n' && sameSh r s
 | _,_=>false
def fetchP (c:Ct) (o:N) (n:Nat):Option (Ob×Ct):=bif Nat.blt 0 n then (c.read o n).map fun (p,l)=>(p,.cells (genL l))else none
def fetchCut (c:Ct) (o:N) (sh:List Sh):Option (Ob×Ct):=
 bif Nat.blt 0 (shLen sh)then
  match c.read o (shLen sh)with
  | some (p,l)=>(cutSegs sh l).map fun s=>(p,.segs s)
  | none=>none
 else none
def fetchG (c:Ct) (o:N) (sh:List Sh):Option (Ob×Ct):=
 match c,o with
 | .segs l,.lit 0=>bif sameSh sh l then some (none,.segs (genSegs l))else fetchCut (.segs l) (.lit 0) sh
 | c,o=>fetchCut c o sh
def fetchS (c:Ct) (o:N) (n:N):Option (Ob×Ct):=
 match c.row o with
 | some (k,xs,o')=>some (some (o'.val+n.val≤xs.length),.ints k ((xs.drop o'.val).take n.val))
 | none=>match n with | .lit n=>fetchP c o n | _=>none
def apart (v:Vw) (r:Nat) (o:N) (c:Ct):Bool:=
 bif Nat.beq v.r r then (match v.o,o with | .lit a,.lit b=>Nat.ble (a+v.c.len) b || Nat.ble (b+c.len) a | _,_=>false)else true
def vid (vs:List Vw):Nat:=rid vs.length 0
def addV (m:Mem) (vs:List Vw) (r:Nat) (o:N) (ro:Bool) (x:Option (Ob×Ct)):Option (Ob×List Vw):=
 match x,m.get r with
 | some (p,c),some g=>
  bif (ro || (!g.ro && Nat.blt r 4194304)) && c.pure && Nat.blt vs.length 64 && vs.all (fun v=>(ro && v.ro) || apart v r o c)then
   some (p,vs++ [⟨vid vs,r,o,ro,c⟩])
  else none
 | _,_=>none
def sameN:N→N→Bool
 | .lit a,.lit b=>Nat.beq a b
 | _,_=>false
def findV (r:Nat) (o:N) (n:Nat) (ro:Bool):List Vw→Option Vw
 | []=>none
 | v::l=>bif Nat.beq v.r r && sameN v.o o && Nat.beq v.c.len n && (ro || !v.ro)then some v else findV r o n ro l
def regC (m:Mem) (r:Nat):Option Ct:=(m.get r).map (·.c)
def canonS (m:Mem) (vs:List Vw) (s:Nat) (ro:Bool) (r:Nat) (o l c:N):Option (Ob×SV×List Vw):=
 match (regC m r).bind fun ct=>fetchS ct o (l.mul s)with
 | some x=>(addV m vs r o ro (some x)).map fun (p,vs')=>(p,.slice (vid vs) (.lit 0) (.sym l.val) (.sym c.val),vs')
 | none=>none
def canonSs (m:Mem):List SV→List Vw→Option (Ob×List SV×List Vw)
 | [],vs=>some (none,[],vs)
 | .slice r o l c::rest,vs=>
  match canonS m vs 1 true r o l c with
  | some (p,v,vs')=>(canonSs m rest vs').map fun (q,l,vs'')=>(p.and q,v::l,vs'')
  | none=>none
 | .val (.slice none 0 0)::rest,vs=>(canonSs m rest vs).map fun (q,l,vs'')=>(q,.val (.slice none 0 0)::l,vs'')
 | _,_=>none
def canon1 (m:Mem) (vs:List Vw) (pt:Pt) (x:SV):Option (Ob×SV×List Vw):=
 match pt,x with
 | .ptr n ro,.ptr r o=>
  match findV r o n ro vs with
  | some v=>some (none,.ptr v.q (.lit 0),vs)
  | none=>(addV m vs r o ro ((regC m r).bind fun c=>fetchP c o n)).map fun (p,vs')=>(p,.ptr (vid vs) (.lit 0),vs')
 | .parts sh ro,.ptr r o=>(addV m vs r o ro ((regC m r).bind fun c=>fetchG c o sh)).map fun (p,vs')=>(p,.ptr (vid vs) (.lit 0),vs')
 | .sl s ro,.slice r o l c=>canonS m vs s ro r o l c
 | .sls,.slice r o (.lit n) c=>
  match (regC m r).bind fun ct=>ct.read o n with
  | some (p,ls)=>
   match canonSs m ls vs with
   | some (p2,cl,vs')=>
    bif Nat.blt 0 n && Nat.blt vs'.length 64 && vs'.all (fun v=>v.ro || apart v r o (.cells cl))then
     some (p.and p2,.slice (vid vs') (.lit 0) (.lit n) c,vs'++ [⟨vid vs',r,o,true,.cells cl⟩])
    else none
   | none=>none
  | none=>none
 | .val,x=>bif x.pure then some (none,x,vs)else none
 | .skip,_=>some (none,.any,vs)
 | .num,x=>bif x.pure then some (none,x.gen,vs)else none
 | .sl _ _,.val (.slice none 0 0)=>some (none,.val (.slice none 0 0),vs)
 | _,_=>none
def canonL (m:Mem):List Pt→List SV→List Vw→Option (Ob×List SV×List Vw)
 | [],[],vs=>some (none,[],vs)
 | pt::pts,x::l,vs=>
  match canon1 m vs pt x with
  | some (p,y,vs')=>(canonL m pts l vs').map fun (q,ys,vs'')=>(p.and q,y::ys,vs'')
  | none=>none
 | _,_,_=>none
def globs (m:Mem):List Nat→List Vw→Option (List Vw)
 | [],vs=>some vs
 | g::gs,vs=>
  match m.get (gid g)with
  | some h=>bif h.c.pure && vs.all (fun v=> !Nat.beq v.q (gid g))then globs m gs (vs++ [⟨gid g,gid g,.lit 0,true,h.c⟩])else none
  | none=>none
def vsL (vs:List Vw):List (Nat×Reg):=vs.map fun v=>(v.q,Reg.mk v.ro v.c)
def memL (l:List (Nat×Reg)):Mem:=l.foldl (fun t x=>Tr.set t x.1 x.2) .leaf
def vsMem (vs:List Vw):Mem:=memL (vsL vs)
def stow (c:Ct) (o:N) (c':Ct):Option (Ob×Ct):=
 match c' with
 | .cells l=>c.write o l
 | .ints k ys=>
  match c.row o with
  | some (k',xs,o')=>bif decide (k=k')then some (some (o'.val+ys.length≤xs.length),c.putRow o k (splice xs o'.val ys))else none
  | none=>none
 | .segs l=>match o with | .lit 0=>bif Nat.beq (segsLen l) c.len then some (none,.segs l)else none | _=>none
def lenOb (a b:Ct):Option Ob:=
 match a,b with
 | .ints _ xs,c=>some (some (xs.length=c.len))
 | a,.ints _ xs=>some (some (a.len=xs.length))
 | a,b=>bif Nat.beq a.len b.len then some none else none
def stowL (cm:Mem):List Vw→Mem→Option (Ob×Mem)
 | [],m=>some (none,m)
 | v::l,m=>
  bif v.ro then stowL cm l m else
  match cm.get v.q,m.get v.r with
  | some h,some g=>
   bif h.ro || g.ro || !h.c.gen.pure then none else
   match lenOb h.c.gen v.c,stow g.c v.o h.c.gen with
   | some p,some (q,c2)=>(stowL cm l (put m v.r ⟨false,c2⟩)).map fun (s,m')=>(p.and (q.and s),m')
   | _,_=>none
  | _,_=>none
mutual
def freshR (vs:List Vw):SV→Option Nat
 | .ptr q _=>bif vs.any (fun v=>Nat.beq v.q q)then none else some q
 | .slice q _ _ _=>bif vs.any (fun v=>Nat.beq v.q q)then none else some q
 | .iface _ v=>freshR vs v
 | .agg l=>freshL vs l
 | .tup l=>freshL vs l
 | _=>none
def freshL (vs:List Vw):List SV→Option Nat
 | []=>none
 | s::l=>match freshR vs s with | some q=>some q | none=>freshL vs l
 end
def backR (vs:List Vw) (nw:Option Nat) (n:Nat) (q:Nat):Option (Nat×N):=
 match vs.find? (fun v=>Nat.beq v.q q)with
 | some v=>some (v.r,v.o)
 | none=>match nw with | some q'=>bif Nat.beq q q' then some (rid n 0,.lit 0)else none | none=>none
mutual
def backS (f:Nat→Option (Nat×N)):SV→Option SV
 | .ptr q o=>(f q).map fun (r,o')=> .ptr r (o'.add o)
 | .slice q o l c=>(f q).map fun (r,o')=> .slice r (o'.add o) l c
 | .iface t v=>(backS f v).map (.iface t)
 | .agg l=>(backL f l).map .agg
 | .tup l=>(backL f l).map .tup
 | v=>some v
def backL (f:Nat→Option (Nat×N)):List SV→Option (List SV)
 | []=>some []
 | s::l=>match backS f s,backL f l with | some s,some l=>some (s::l) | _,_=>none
 end
def back (vs:List Vw) (n:Nat) (m:Mem) (k:SV→Mem→Prop) (sv:SV) (cm:Mem):Prop:=
 match stowL cm vs m with
 | none=>False
 | some (p,m')=>
  p.then <|
  match freshR vs sv with
  | none=>(match backS (backR vs none n) sv.gen with | some sv'=>k sv' m' | none=>False)
  | some q=>
   match cm.get q with
   | some h=>
    bif h.ro || !h.c.gen.pure || Nat.beq (q%2) 0 then False else
    (match backS (backR vs (some q) n) sv.gen with | some sv'=>k sv' (put m' (rid n 0) ⟨false,h.c.gen⟩) | none=>False)
   | none=>False
def nmSegs:List Sg→(List Sg→Prop)→Prop
 | [],K=>K []
 | .ints k n xs::l,K=>∀ys,ys=xs→nmSegs l fun l'=>K (.ints k n ys::l')
 | .cells c::l,K=>nmSegs l fun l'=>K (.cells c::l')
def nmC (c:Ct) (K:Ct→Prop):Prop:=
 match c with
 | .ints k xs=>∀ys,ys=xs→K (.ints k ys)
 | .segs l=>nmSegs l fun l'=>K (.segs l')
 | c=>K c
def stowK (cm:Mem):List Vw→Mem→(Mem→Prop)→Prop
 | [],m,K=>K m
 | v::l,m,K=>
  bif v.ro then stowK cm l m K else
  match cm.get v.q,m.get v.r with
  | some h,some g=>
   bif h.ro || g.ro || !h.c.gen.pure then False else
   match lenOb h.c.gen v.c,stow g.c v.o h.c.gen with
   | some p,some (q,c2)=>p.then (q.then (nmC c2 fun c2=>stowK cm l (put m v.r ⟨false,c2⟩) K))
   | _,_=>False
  | _,_=>False
def backK (vs:List Vw) (n:Nat) (m:Mem) (k:SV→Mem→Prop) (sv:SV) (cm:Mem):Prop:=
 stowK cm vs m fun m'=>
  match freshR vs sv with
  | none=>(match backS (backR vs none n) sv.gen with | some sv'=>k sv' m' | none=>False)
  | some q=>
   match cm.get q with
   | some h=>
    bif h.ro || !h.c.gen.pure || Nat.beq (q%2) 0 then False else
    (match backS (backR vs (some q) n) sv.gen with | some sv'=>nmC h.c.gen fun c=>k sv' (put m' (rid n 0) ⟨false,c⟩) | none=>False)
   | none=>False
abbrev G0:=List SV→List (Nat×Reg)→(SV→Mem→Prop)→Prop
def runE (gl:List Nat) (pts:List Pt) (G:G0) (n:Nat) (m:Mem) (args:List SV) (k:SV→Mem→Prop):Prop:=
 match globs m gl []with
 | none=>False
 | some vs0=>
  match canonL m pts args vs0 with
  | none=>False
  | some (p,cargs,vs)=>bif Nat.blt (rid n 3) 4194304 then p.then (G cargs (vsL vs) (backK vs n m k))else False
abbrev R0:=List SV→List (Nat×Reg)→Option (Ob×SV)
def runR (gl:List Nat) (pts:List Pt) (R:R0) (m:Mem) (args:List SV):Option (Ob×SV):=
 match globs m gl []with
 | none=>none
 | some vs0=>
  match canonL m pts args vs0 with
  | none=>none
  | some (p,cargs,vs)=>
   bif vs.all (·.ro)then
    match R cargs (vsL vs)with
    | some (q,v)=>bif v.pure then some (p.and q,v)else none
    | none=>none
   else none
mutual
theorem pure_den {β β':Env}:∀(s:SV) (v:Value),s.pure=true→Den β s v→Den β' s v
 | .any,_,_,_=>by simp[Den]
 | .int _ _,_,_,h=>h
 | .bool _,_,_,h=>h
 | .ptr _ _,_,hp,_=>by simp[SV.pure]at hp
 | .slice _ _ _ _,_,hp,_=>by simp[SV.pure]at hp
 | .iface t s,v,hp,h=>by
  simp only[SV.pure]at hp
  simp only[Den]at h ⊢
  obtain ⟨u,h1,h2⟩:=h
  exact ⟨u,pure_den s u hp h1,h2⟩
 | .agg l,v,hp,h=>by
  simp only[SV.pure]at hp
  simp only[Den]at h ⊢
  obtain ⟨u,h1,h2⟩:=h
  exact ⟨u,pureL_den l u hp h1,h2⟩
 | .tup l,v,hp,h=>by
  simp only[SV.pure]at hp
  simp only[Den]at h ⊢
  obtain ⟨u,h1,h2⟩:=h
  exact ⟨u,pureL_den l u hp h1,h2⟩
 | .bytes _,_,_,h=>h
 | .val _,_,_,h=>h
theorem pureL_den {β β':Env}:∀(l:List SV) (vs:List Value),pureL l=true→DenL β l vs→DenL β' l vs
 | [],_,_,h=>h
 | s::l,vs,hp,h=>by
  simp only[pureL,Bool.and_eq_true]at hp
  rw[DenL.cons']at h ⊢
  obtain ⟨v,vs',h1,h2,h3⟩:=h
  exact ⟨v,vs',h1,pure_den s v hp.1 h2,pureL_den l vs' hp.2 h3⟩
 end
theorem pureSegs_den {β β':Env}:∀ {l:List Sg} {vs:List Value},pureSegs l=true→segsDen β l vs→segsDen β' l vs
 | [],_,_,h=>h
 | .cells c::l,vs,hp,h=>by
  simp only[pureSegs,Bool.and_eq_true]at hp
  obtain ⟨us,us',h1,h2,h3⟩:=h
  exact ⟨us,us',pureL_den c us hp.1 h1,pureSegs_den hp.2 h2,h3⟩
 | .ints k n xs::l,vs,hp,h=>by
  simp only[pureSegs]at hp
  obtain ⟨us,us',h1,h2,h3⟩:=h
  exact ⟨us,us',h1,pureSegs_den hp h2,h3⟩
theorem Ct.pure_den {β β':Env} {c:Ct} {vs:List Value} (hp:c.pure=true) (h:c.den β vs):c.den β' vs:=by
 cases c with
 | cells l=>exact pureL_den l vs hp h
 | ints k xs=>exact h
 | segs l=>exact pureSegs_den hp h
mutual
theorem gen_den {β:Env}:∀(s:SV) (v:Value),Den β s v→Den β s.gen v
 | .any,_,h=>h
 | .int _ _,_,h=>h
 | .bool _,_,h=>h
 | .ptr _ _,_,h=>h
 | .slice _ _ _ _,_,h=>h
 | .iface t s,v,h=>h
 | .agg l,v,h=>by
  simp only[Den,SV.gen]at h ⊢
  obtain ⟨u,h1,h2⟩:=h
  exact ⟨u,genL_den l u h1,h2⟩
 | .tup l,v,h=>h
 | .bytes _,_,h=>h
 | .val _,_,h=>h
theorem genL_den {β:Env}:∀(l:List SV) (vs:List Value),DenL β l vs→DenL β (genL l) vs
 | [],_,h=>h
 | s::l,vs,h=>by
  simp only[genL]
  rw[DenL.cons']at h ⊢
  obtain ⟨v,vs',h1,h2,h3⟩:=h
  exact ⟨v,vs',h1,gen_den s v h2,genL_den l vs' h3⟩
 end
theorem genSegs_den {β:Env}:∀ {l:List Sg} {vs:List Value},segsDen β l vs→segsDen β (genSegs l) vs
 | [],_,h=>h
 | .cells c::l,vs,h=>by
  obtain ⟨us,us',h1,h2,h3⟩:=h
  exact ⟨us,us',genL_den c us h1,genSegs_den h2,h3⟩
 | .ints k n xs::l,vs,h=>by
  obtain ⟨us,us',h1,h2,h3⟩:=h
  exact ⟨us,us',h1,genSegs_den h2,h3⟩
theorem Ct.gen_den {β:Env} {c:Ct} {vs:List Value} (h:c.den β vs):c.gen.den β vs:=by
 cases c with
 | cells l=>exact genL_den _ _ h
 | ints k xs=>exact h
 | segs l=>exact genSegs_den h
theorem genL_len:∀l:List SV,(genL l).length=l.length
 | []=>rfl
 | s::l=>by simp[genL,genL_len l]
theorem genSegs_len:∀l:List Sg,segsLen (genSegs l)=segsLen l
 | []=>rfl
 | .cells c::l=>by simp[genSegs,segsLen,Sg.len,genL_len,genSegs_len l]
 | .ints k n xs::l=>by simp[genSegs,segsLen,Sg.len,genSegs_len l]
theorem Ct.gen_len (c:Ct):c.gen.len=c.len:=by
 cases c with
 | cells l=>exact genL_len l
 | ints k xs=>rfl
 | segs l=>exact genSegs_len l
theorem cutSegs_den {β:Env}:∀ {sh:List Sh} {l:List SV} {vs:List Value} {s:List Sg},DenL β l vs→cutSegs sh l=some s→segsDen β s vs
 | [],[],vs,s,h,hs=>by simp[cutSegs]at hs;subst hs;exact h
 | [],_::_,vs,s,h,hs=>by simp[cutSegs]at hs
 | .cells n::r,l,vs,s,h,hs=>by
  simp only[cutSegs]at hs
  cases hb:Nat.ble n l.length with
  | false=>rw[hb]at hs;simp at hs
  | true=>
   rw[hb]at hs
   simp only[cond_true,Option.map_eq_some_iff]at hs
   obtain ⟨s',h1,rfl⟩:=hs
   exact ⟨vs.take n,vs.drop n,genL_den _ _ (h.take n),cutSegs_den (h.drop n) h1,by simp⟩
 | .ints k n::r,l,vs,s,h,hs=>by
  simp only[cutSegs]at hs
  cases hb:Nat.ble n l.length with
  | false=>rw[hb]at hs;simp at hs
  | true=>
   rw[hb]at hs
   simp only[cond_true]at hs
   split at hs
   ·rename_i xs hx
    simp only[Option.map_eq_some_iff]at hs
    obtain ⟨s',h1,rfl⟩:=hs
    have hl:n≤l.length:=by simpa using hb
    have e:=intsOf_length hx
    exact ⟨vs.take n,vs.drop n,⟨by rw[←e];simp;omega,DenL.ints _ (h.take n) hx⟩,cutSegs_den (h.drop n) h1,by simp⟩
   ·simp at hs
def Fetched (β:Env) (vs0:List Value) (o:N) (c:Ct):Prop:=
 ∃us,c.den β us∧(∀i u,us[i]? =some u→vs0[o.val+i]? =some u)∧o.val+us.length≤vs0.length
theorem fetched_of {vs0 us:List Value} {o n:Nat} (h:∀j u,us[j]? =some u→vs0[o+j]? =some u) (hl:us.length=n) (hn:0<n):o+us.length≤vs0.length:=by
 have h1:us[n-1]? =some us[n-1]:=List.getElem?_eq_getElem (by omega)
 have h2:=(List.getElem?_eq_some_iff.1 (h _ _ h1)).1
 omega
theorem fetchP_spec {β:Env} {c:Ct} {vs0:List Value} {o:N} {n:Nat} {p:Ob} {c':Ct} (h:c.den β vs0) (hf:fetchP c o n=some (p,c')) (hp:p.ok):Fetched β vs0 o c':=by
 unfold fetchP at hf
 cases hb:Nat.blt 0 n with
 | false=>rw[hb]at hf;simp at hf
 | true=>
  rw[hb]at hf
  simp only[cond_true,Option.map_eq_some_iff,Prod.exists,Prod.mk.injEq]at hf
  obtain ⟨p',l,h1,rfl,rfl⟩:=hf
  obtain ⟨us,e1,e2,e3⟩:=Ct.read_spec h h1 hp
  exact ⟨us,genL_den _ _ e1,e3,fetched_of e3 e2 (blt_iff.1 hb)⟩
theorem fetchCut_spec {β:Env} {c:Ct} {vs0:List Value} {o:N} {sh:List Sh} {p:Ob} {c':Ct} (h:c.den β vs0) (hf:fetchCut c o sh=some (p,c')) (hp:p.ok):Fetched β vs0 o c':=by
 unfold fetchCut at hf
 cases hb:Nat.blt 0 (shLen sh)with
 | false=>rw[hb]at hf;simp at hf
 | true=>
  rw[hb]at hf
  simp only[cond_true]at hf
  split at hf
  ·rename_i p' l h1
   simp only[Option.map_eq_some_iff,Prod.mk.injEq]at hf
   obtain ⟨s,h2,rfl,rfl⟩:=hf
   obtain ⟨us,e1,e2,e3⟩:=Ct.read_spec h h1 hp
   exact ⟨us,cutSegs_den e1 h2,e3,fetched_of e3 e2 (blt_iff.1 hb)⟩
  ·simp at hf
theorem fetchG_spec {β:Env} {c:Ct} {vs0:List Value} {o:N} {sh:List Sh} {p:Ob} {c':Ct} (h:c.den β vs0) (hf:fetchG c o sh=some (p,c')) (hp:p.ok):Fetched β vs0 o c':=by
 unfold fetchG at hf
 split at hf
 ·rename_i l
  cases hb:sameSh sh l with
  | false=>rw[hb]at hf;exact fetchCut_spec h hf hp
  | true=>
   rw[hb]at hf
   simp only[cond_true,Option.some.injEq,Prod.mk.injEq]at hf
   obtain ⟨rfl,rfl⟩:=hf
   exact ⟨vs0,genSegs_den h,fun i u hi=>by simpa [N.val]using hi,by simp[N.val]⟩
 ·exact fetchCut_spec h hf hp
theorem fetchS_spec {β:Env} {c:Ct} {vs0:List Value} {o n:N} {p:Ob} {c':Ct} (h:c.den β vs0) (hf:fetchS c o n=some (p,c')) (hp:p.ok):Fetched β vs0 o c':=by
 unfold fetchS at hf
 split at hf
 ·rename_i k xs o' hr
  simp only[Option.some.injEq,Prod.mk.injEq]at hf
  obtain ⟨rfl,rfl⟩:=hf
  have hle:o'.val+n.val≤xs.length:=hp
  obtain ⟨h1,h2⟩:=row_spec h hr
  refine ⟨_,rfl,fun i u hi=>h1 i u ?_,?_⟩
  ·simp only[List.getElem?_map,List.getElem?_take,List.getElem?_drop]at hi ⊢
   split at hi
   ·exact hi
   ·simp at hi
  ·have:=(h2 ((xs.drop o'.val).take n.val) (by simp;omega)).2.1
   simpa using this
 ·split at hf
  ·exact fetchP_spec h hf hp
  ·simp at hf
theorem splice_all {α:Type} (l vs:List α) (h:vs.length=l.length):splice l 0 vs=vs:=by
 unfold splice;simp[h]
theorem stow_spec {β:Env} {c c' c2:Ct} {vs0 us:List Value} {o:N} {p:Ob} (h:c.den β vs0) (h':c'.den β us) (hs:stow c o c'=some (p,c2)) (hp:p.ok):
  c2.den β (splice vs0 o.val us)∧o.val+us.length≤vs0.length∧c2.len=c.len:=by
 unfold stow at hs
 split at hs
 ·rename_i l
  obtain ⟨e1,e2,e3,_⟩:=Ct.write_spec h h' hs hp
  exact ⟨e1,e2,e3⟩
 ·rename_i k ys
  split at hs
  ·rename_i k' xs o' hr
   cases hb:decide (k=k')with
   | false=>rw[hb]at hs;simp at hs
   | true=>
    rw[hb]at hs
    simp only[cond_true,Option.some.injEq,Prod.mk.injEq]at hs
    obtain ⟨rfl,rfl⟩:=hs
    have hk:k=k':=by simpa using hb
    subst hk
    have hle:o'.val+ys.length≤xs.length:=hp
    obtain ⟨_,h2⟩:=row_spec h hr
    obtain ⟨f1,f2,f3⟩:=h2 ys hle
    have hu:us=ys.map (.int k):=h'
    subst hu
    exact ⟨f1,by simpa using f2,f3⟩
  ·simp at hs
 ·rename_i l
  split at hs
  ·cases hb:Nat.beq (segsLen l) c.len with
   | false=>rw[hb]at hs;simp at hs
   | true=>
    rw[hb]at hs
    simp only[cond_true,Option.some.injEq,Prod.mk.injEq]at hs
    obtain ⟨rfl,rfl⟩:=hs
    have e1:=segsDen_length h'
    have e2:=Ct.den_length h
    have e3:=Nat.eq_of_beq_eq_true hb
    refine ⟨?_,by simp[N.val];omega,e3⟩
    show segsDen β l (splice vs0 0 us)
    rw[splice_all _ _ (by omega)]
    exact h'
  ·simp at hs
theorem lenOb_spec {a b:Ct} {p:Ob} (h:lenOb a b=some p) (hp:p.ok):a.len=b.len:=by
 unfold lenOb at h
 split at h
 ·simp only[Option.some.injEq]at h;subst h;exact hp
 ·simp only[Option.some.injEq]at h;subst h;exact hp
 ·cases hb:Nat.beq a.len b.len with
  | false=>rw[hb]at h;simp at h
  | true=>exact Nat.eq_of_beq_eq_true hb
def cenv (β:Env) (vs:List Vw):Env:=fun q=>
 if q%2=0 then some (q / 2,0)else match vs.find? (fun v=>Nat.beq v.q q)with | some v=>(β v.r).map fun (b,o)=>(b,o+v.o.val) | none=>none
structure VwOk (β βc:Env) (m:Mem) (w:World) (v:Vw):Prop where
 ex:∃g b o arr t fz us,m.get v.r=some g∧β v.r=some (b,o)∧w.heap[b]? =some (.cells arr t fz)∧v.c.den βc us∧
  (∀i u,us[i]? =some u→arr[o+v.o.val+i]? =some u)∧(v.ro=false→g.ro=false)∧v.o.val+us.length≤g.c.len
 nm:∀b o,β v.r=some (b,o)→βc v.q=some (b,o+v.o.val)
theorem VwOk.mono {β βc βd:Env} {m:Mem} {w:World} {v:Vw} (h:VwOk β βc m w v) (hle:EnvLe βc βd):VwOk β βd m w v:=by
 obtain ⟨g,b,o,arr,t,fz,us,h1,h2,h3,h4,h5⟩:=h.ex
 exact ⟨⟨g,b,o,arr,t,fz,us,h1,h2,h3,Ct.den_mono hle h4,h5⟩,fun b o hb=>hle _ _ (h.nm b o hb)⟩
def Side (u v:Vw):Prop:=u.q≠v.q∧((u.ro=true∧v.ro=true)∨(u.r=v.r→u.o.val+u.c.len≤v.o.val∨v.o.val+v.c.len≤u.o.val))
structure VI (β:Env) (m:Mem) (w:World) (vs:List Vw):Prop where
 ok:∀v∈vs,VwOk β (cenv β vs) m w v
 num:∀v∈vs,v.q%2=0∨∃k,k<vs.length∧k<64∧v.q=rid k 0
 side:∀u∈vs,∀v∈vs,u=v∨Side u v
theorem VI.nil {β:Env} {m:Mem} {w:World}:VI β m w []:=⟨nofun,nofun,nofun⟩
theorem Side.symm {u v:Vw} (h:Side u v):Side v u:=⟨fun e=>h.1 e.symm,h.2.elim (fun h=> .inl ⟨h.2,h.1⟩) fun h=> .inr fun e=>(h e.symm).symm⟩
theorem cenv_snoc {β:Env} {vs:List Vw} {v:Vw}:EnvLe (cenv β vs) (cenv β (vs++ [v])):=fun q x h=>by
 unfold cenv at h ⊢
 split
 ·rename_i h0;rw[if_pos h0]at h;exact h
 ·rename_i h0
  rw[if_neg h0]at h
  split at h
  ·rename_i u hu
   rw[List.find?_append,hu]
   exact h
  ·cases h
theorem VI.snoc {β:Env} {m:Mem} {w:World} {vs:List Vw} {v:Vw} (h:VI β m w vs) {g:Reg} {b o:Nat} {arr:Array Value} {t:TypeId} {fz:Nat×Nat} {us:List Value}
  (h1:m.get v.r=some g) (h2:β v.r=some (b,o)) (h3:w.heap[b]? =some (.cells arr t fz)) (h4:v.c.den (cenv β vs) us)
  (h5:∀i u,us[i]? =some u→arr[o+v.o.val+i]? =some u) (h6:v.ro=false→g.ro=false) (h7:v.o.val+us.length≤g.c.len)
  (hq:(v.q=vid vs∧vs.length<64)∨(v.q%2=0∧v.o.val=0∧β v.r=some (v.q / 2,0)))
  (hs:∀u∈vs,Side u v):VI β m w (vs++ [v]):=by
 have hlen:(vs++ [v]).length=vs.length+1:=by simp
 refine ⟨fun u hu=> ?_,fun u hu=> ?_,fun x hx y hy=> ?_⟩
 ·rcases List.mem_append.1 hu with hu | hu
  ·exact (h.ok u hu).mono cenv_snoc
  ·have:u=v:=by simpa using hu
   subst this
   refine ⟨⟨g,b,o,arr,t,fz,us,h1,h2,h3,Ct.den_mono cenv_snoc h4,h5,h6,h7⟩,fun b' o' hb=> ?_⟩
   unfold cenv
   rcases hq with ⟨hq,_⟩ | ⟨hq,h0,hg⟩
   ·rw[if_neg (by rw[hq];unfold vid rid;omega)]
    rw[List.find?_append]
    have:vs.find? (fun v=>Nat.beq v.q u.q)=none:=by
     rw[List.find?_eq_none]
     intro z hz hbz
     exact (hs z hz).1 (Nat.eq_of_beq_eq_true hbz)
    rw[this]
    simp[Nat.beq_refl,hb]
   ·rw[if_pos hq]
    rw[hb]at hg
    injection hg with hg;injection hg with e1 e2
    rw[e1,e2,h0]
 ·rw[hlen]
  rcases List.mem_append.1 hu with hu | hu
  ·rcases h.num u hu with h | ⟨k,hk,hk2,he⟩
   ·exact .inl h
   ·exact .inr ⟨k,by omega,hk2,he⟩
  ·have:u=v:=by simpa using hu
   subst this
   rcases hq with ⟨hq,hl⟩ | ⟨hq,_⟩
   ·exact .inr ⟨vs.length,by omega,hl,hq⟩
   ·exact .inl hq
 ·rcases List.mem_append.1 hx with hx | hx<;>rcases List.mem_append.1 hy with hy | hy
  ·exact h.side x hx y hy
  ·have:y=v:=by simpa using hy
   exact .inr (this ▸ hs x hx)
  ·have:x=v:=by simpa using hx
   exact .inr (this ▸ (hs y hy).symm)
  ·have e1:x=v:=by simpa using hx
   have e2:y=v:=by simpa using hy
   exact .inl (e1.trans e2.symm)
theorem VI.vid_new {β:Env} {m:Mem} {w:World} {vs:List Vw} (h:VI β m w vs):∀u∈vs,u.q≠vid vs:=fun u hu e=>by
 rcases h.num u hu with h | ⟨k,hk,_,he⟩
 ·rw[e]at h;unfold vid rid at h;omega
 ·rw[e]at he;unfold vid rid at he;omega
theorem apart_spec {v:Vw} {r:Nat} {o:N} {c:Ct} (h:apart v r o c=true):v.r=r→v.o.val+v.c.len≤o.val∨o.val+c.len≤v.o.val:=fun e=>by
 unfold apart at h
 rw[e,Nat.beq_refl]at h
 simp only[cond_true]at h
 revert h
 cases v.o with
 | lit a=>
  cases o with
  | lit b=>intro h;simp only[Bool.or_eq_true]at h;simpa [N.val]using h
  | sym b=>intro h;cases h
  | «at» b c=>intro h;cases h
 | sym a=>intro h;cases h
 | «at» a c=>intro h;cases h
section
variable {β:Env} {T:Nat→Nat→Prop} {m:Mem} {w0 w:World}
theorem addV_sound (hH:Holds β T m w0 w) {vs vs':List Vw} (hI:VI β m w vs) {r:Nat} {o:N} {ro:Bool} {x:Option (Ob×Ct)} {p:Ob}
  (h:addV m vs r o ro x=some (p,vs')) (hx:∀p c g vs0,x=some (p,c)→p.ok→m.get r=some g→g.c.den β vs0→Fetched β vs0 o c) (hp:p.ok):
  VI β m w vs'∧(∃v,vs'=vs++ [v])∧∀b ob,β r=some (b,ob)→cenv β vs' (vid vs)=some (b,ob+o.val):=by
 unfold addV at h
 split at h
 ·rename_i p' c g hg
  generalize hbb:((ro || (!g.ro && Nat.blt r 4194304)) && c.pure && Nat.blt vs.length 64 && vs.all (fun v=>(ro && v.ro) || apart v r o c))=bb at h
  cases bb with
  | false=>simp at h
  | true=>
   simp only[cond_true,Option.some.injEq,Prod.mk.injEq]at h
   obtain ⟨rfl,rfl⟩:=h
   simp only[Bool.and_eq_true,Bool.or_eq_true,List.all_eq_true]at hbb
   obtain ⟨⟨⟨h1,h2⟩,h3⟩,h4⟩:=hbb
   obtain ⟨b,ob,arr,t,fz,vs0,e1,e2,e3,e4,e5⟩:=(hH.reg r g hg).ex
   obtain ⟨us,f1,f2,f3⟩:=hx p' c g vs0 rfl hp hg e3
   have key:VI β m w (vs++ [⟨vid vs,r,o,ro,c⟩]):=by
    refine hI.snoc (v:=⟨vid vs,r,o,ro,c⟩) hg e1 e2 (Ct.pure_den h2 f1) (fun i u hi=> ?_) (fun hro=> ?_) ?_ (.inl ⟨rfl,blt_iff.1 h3⟩) (fun u hu=>⟨hI.vid_new u hu,?_⟩)
    ·have:=e4 _ _ (f2 i u hi)
     rw[Nat.add_assoc];exact this
    ·simp only at hro
     rw[hro]at h1
     simp only[Bool.false_eq_true,false_or,Bool.not_eq_true',Bool.and_eq_true]at h1
     exact h1.1
    ·rw[←Ct.den_length e3];exact f3
    ·rcases h4 u hu with h | h
     ·exact .inl ⟨h.2,h.1⟩
     ·exact .inr (apart_spec h)
   refine ⟨key,⟨_,rfl⟩,fun b ob hb=> ?_⟩
   exact (key.ok ⟨vid vs,r,o,ro,c⟩ (by simp)).nm b ob hb
 ·simp at h
theorem Fetched.length {vs0:List Value} {o:N} {c:Ct} (h:Fetched β vs0 o c):o.val+c.len≤vs0.length:=by
 obtain ⟨us,h1,_,h3⟩:=h
 rw[←Ct.den_length h1];exact h3
theorem regC_some {r:Nat} {c:Ct} (h:regC m r=some c):∃g,m.get r=some g∧g.c=c:=by
 unfold regC at h
 simpa using h
theorem bind_fetch {f:Ct→Option (Ob×Ct)} {r:Nat} {o:N} (hf:∀c c' vs0 p,f c=some (p,c')→p.ok→c.den β vs0→Fetched β vs0 o c'):
  ∀p c g vs0,((regC m r).bind f)=some (p,c)→p.ok→m.get r=some g→g.c.den β vs0→Fetched β vs0 o c:=by
 intro p c g vs0 h hp hg hd
 have:regC m r=some g.c:=by unfold regC;rw[hg];rfl
 rw[this]at h
 exact hf _ _ _ _ h hp hd
theorem canonS_sound (hH:Holds β T m w0 w) {vs vs':List Vw} (hI:VI β m w vs) {s:Nat} {ro:Bool} {r:Nat} {o l c:N} {p:Ob} {y:SV} {v:Value}
  (h:canonS m vs s ro r o l c=some (p,y,vs')) (hp:p.ok) (hd:Den β (.slice r o l c) v):VI β m w vs'∧(∃l,vs'=vs++l)∧Den (cenv β vs') y v:=by
 unfold canonS at h
 split at h
 ·rename_i x hx
  simp only[Option.map_eq_some_iff,Prod.exists,Prod.mk.injEq]at h
  obtain ⟨p',vs1,h1,rfl,rfl,rfl⟩:=h
  obtain ⟨k1,⟨u,k2⟩,k3⟩:=addV_sound hH hI h1 (by
   intro p c g vs0 h hp hg hd
   rw[←hx]at h
   exact bind_fetch (fun c c' vs0 p h hp hd=>fetchS_spec hd h hp) p c g vs0 h hp hg hd) hp
  refine ⟨k1,⟨_,k2⟩,?_⟩
  simp only[Den]at hd ⊢
  obtain ⟨b,ob,hb,rfl⟩:=hd
  exact ⟨b,_,k3 b ob hb,by simp[N.val]⟩
 ·simp at h
theorem canonSs_sound (hH:Holds β T m w0 w):∀ {ls:List SV} {vs vs':List Vw} {p:Ob} {ys:List SV} {us:List Value},VI β m w vs→canonSs m ls vs=some (p,ys,vs')→p.ok→DenL β ls us→
  VI β m w vs'∧(∃l,vs'=vs++l)∧DenL (cenv β vs') ys us
 | [],vs,vs',p,ys,us,hI,h,hp,hd=>by
  simp only[canonSs,Option.some.injEq,Prod.mk.injEq]at h
  obtain ⟨rfl,rfl,rfl⟩:=h
  exact ⟨hI,⟨[],by simp⟩,hd⟩
 | x::rest,vs,vs',p,ys,us,hI,h,hp,hd=>by
  have mono:∀(a l:List Vw),EnvLe (cenv β a) (cenv β (a++l)):=by
   intro a l
   induction l generalizing a with
   | nil=>simp;exact EnvLe.refl _
   | cons z l ih=>have:=(cenv_snoc (β:=β) (vs:=a) (v:=z)).trans (ih (a++ [z]));simpa using this
  rw[DenL.cons']at hd
  obtain ⟨v,us',rfl,d1,d2⟩:=hd
  unfold canonSs at h
  split at h
  ·cases ‹_::_= []›
  ·rename_i r o l c rest' vs0 heq
   injection heq with e1 e2
   subst e1;subst e2
   split at h
   ·rename_i p1 y vs1 h1
    simp only[Option.map_eq_some_iff,Prod.exists,Prod.mk.injEq]at h
    obtain ⟨q,l2,vs2,h2,rfl,rfl,rfl⟩:=h
    obtain ⟨hp1,hp2⟩:=Ob.and_ok hp
    obtain ⟨k1,⟨a1,k2⟩,k3⟩:=canonS_sound hH hI h1 hp1 d1
    obtain ⟨k4,⟨a2,k5⟩,k6⟩:=canonSs_sound hH k1 h2 hp2 d2
    subst k2;subst k5
    refine ⟨k4,⟨a1++a2,by simp⟩,?_⟩
    rw[DenL.cons]
    exact ⟨Den.mono (mono _ _) _ _ k3,k6⟩
   ·simp at h
  ·rename_i rest' vs0 heq
   injection heq with e1 e2
   subst e1;subst e2
   simp only[Option.map_eq_some_iff,Prod.exists,Prod.mk.injEq]at h
   obtain ⟨q,l2,vs2,h2,rfl,rfl,rfl⟩:=h
   obtain ⟨k4,⟨a2,k5⟩,k6⟩:=canonSs_sound hH hI h2 hp d2
   refine ⟨k4,⟨a2,k5⟩,?_⟩
   rw[DenL.cons]
   exact ⟨d1,k6⟩
  ·simp at h
theorem cenv_append (a l:List Vw):EnvLe (cenv β a) (cenv β (a++l)):=by
 induction l generalizing a with
 | nil=>simp;exact EnvLe.refl _
 | cons z l ih=>have:=(cenv_snoc (β:=β) (vs:=a) (v:=z)).trans (ih (a++ [z]));simpa using this
theorem sameN_spec {a b:N} (h:sameN a b=true):a.val=b.val:=by
 unfold sameN at h
 split at h
 ·exact Nat.eq_of_beq_eq_true h
 ·cases h
theorem findV_spec {r:Nat} {o:N} {n:Nat} {ro:Bool}:∀ {vs:List Vw} {v:Vw},findV r o n ro vs=some v→v∈vs∧v.r=r∧v.o.val=o.val
 | [],v,h=>by simp[findV]at h
 | u::l,v,h=>by
  simp only[findV]at h
  generalize hbb:(Nat.beq u.r r && sameN u.o o && Nat.beq u.c.len n && (ro || !u.ro))=bb at h
  cases bb with
  | true=>
   simp only[cond_true,Option.some.injEq]at h
   subst h
   simp only[Bool.and_eq_true]at hbb
   exact ⟨by simp,Nat.eq_of_beq_eq_true hbb.1.1.1,sameN_spec hbb.1.1.2⟩
  | false=>
   obtain ⟨h1,h2⟩:=findV_spec h
   exact ⟨by simp[h1],h2⟩
theorem canon1_sound (hH:Holds β T m w0 w) {vs vs':List Vw} (hI:VI β m w vs) {pt:Pt} {x y:SV} {p:Ob} {v:Value}
  (h:canon1 m vs pt x=some (p,y,vs')) (hp:p.ok) (hd:Den β x v):VI β m w vs'∧(∃l,vs'=vs++l)∧Den (cenv β vs') y v:=by
 unfold canon1 at h
 split at h
 ·rename_i n ro r o
  split at h
  ·rename_i u hu
   simp only[Option.some.injEq,Prod.mk.injEq]at h
   obtain ⟨rfl,rfl,rfl⟩:=h
   obtain ⟨h1,rfl,h3⟩:=findV_spec hu
   refine ⟨hI,⟨[],by simp⟩,?_⟩
   simp only[Den]at hd ⊢
   obtain ⟨b,ob,hb,rfl⟩:=hd
   exact ⟨b,_,(hI.ok u h1).nm b ob hb,by rw[h3,N.lit_val,Nat.add_zero]⟩
  ·simp only[Option.map_eq_some_iff,Prod.exists,Prod.mk.injEq]at h
   obtain ⟨p',vs1,h1,rfl,rfl,rfl⟩:=h
   obtain ⟨k1,⟨u,k2⟩,k3⟩:=addV_sound hH hI h1 (bind_fetch (fun c c' vs0 p h hp hd=>fetchP_spec hd h hp)) hp
   refine ⟨k1,⟨_,k2⟩,?_⟩
   simp only[Den]at hd ⊢
   obtain ⟨b,ob,hb,rfl⟩:=hd
   exact ⟨b,_,k3 b ob hb,by simp[N.val]⟩
 ·rename_i sh ro r o
  simp only[Option.map_eq_some_iff,Prod.exists,Prod.mk.injEq]at h
  obtain ⟨p',vs1,h1,rfl,rfl,rfl⟩:=h
  obtain ⟨k1,⟨u,k2⟩,k3⟩:=addV_sound hH hI h1 (bind_fetch (fun c c' vs0 p h hp hd=>fetchG_spec hd h hp)) hp
  refine ⟨k1,⟨_,k2⟩,?_⟩
  simp only[Den]at hd ⊢
  obtain ⟨b,ob,hb,rfl⟩:=hd
  exact ⟨b,_,k3 b ob hb,by simp[N.val]⟩
 ·exact canonS_sound hH hI h hp hd
 ·rename_i r o n c
  split at h
  ·rename_i p1 ls h1
   split at h
   ·rename_i p2 cl vs1 h2
    generalize hbb:(Nat.blt 0 n && Nat.blt vs1.length 64 && vs1.all (fun v=>v.ro || apart v r o (.cells cl)))=bb at h
    cases bb with
    | false=>simp at h
    | true=>
     simp only[cond_true,Option.some.injEq,Prod.mk.injEq]at h
     obtain ⟨rfl,rfl,rfl⟩:=h
     simp only[Bool.and_eq_true,Bool.or_eq_true,List.all_eq_true]at hbb
     obtain ⟨⟨b1,b2⟩,b3⟩:=hbb
     obtain ⟨hp1,hp2⟩:=Ob.and_ok hp
     obtain ⟨ct,hct,hrd⟩:=Option.bind_eq_some_iff.1 h1
     obtain ⟨g,hg,rfl⟩:=regC_some hct
     obtain ⟨b,ob,arr,t,fz,vs0,e1,e2,e3,e4,e5⟩:=(hH.reg r g hg).ex
     obtain ⟨us,f1,f2,f3⟩:=Ct.read_spec e3 hrd hp1
     obtain ⟨k1,⟨a1,k2⟩,k3⟩:=canonSs_sound hH hI h2 hp2 f1
     subst k2
     have key:VI β m w ((vs++a1)++ [⟨vid (vs++a1),r,o,true,.cells cl⟩]):=by
      refine k1.snoc (v:=⟨vid (vs++a1),r,o,true,.cells cl⟩) hg e1 e2 (us:=us) k3 (fun i u hi=> ?_) (fun hro=>by cases hro) ?_ (.inl ⟨rfl,blt_iff.1 b2⟩) (fun u hu=>⟨k1.vid_new u hu,?_⟩)
      ·have:=e4 _ _ (f3 i u hi)
       rw[Nat.add_assoc];exact this
      ·rw[←Ct.den_length e3];exact fetched_of f3 f2 (blt_iff.1 b1)
      ·rcases b3 u hu with h | h
       ·exact .inl ⟨h,rfl⟩
       ·exact .inr (apart_spec h)
     refine ⟨key,⟨a1++ [⟨vid (vs++a1),r,o,true,.cells cl⟩],by simp⟩,?_⟩
     simp only[Den]at hd ⊢
     obtain ⟨b',ob',hb,rfl⟩:=hd
     exact ⟨b',_,(key.ok ⟨vid (vs++a1),r,o,true,.cells cl⟩ (by simp)).nm b' ob' hb,by simp[N.val]⟩
   ·simp at h
  ·simp at h
 ·cases hb:x.pure with
  | false=>rw[hb]at h;simp at h
  | true=>
   rw[hb]at h
   simp only[cond_true,Option.some.injEq,Prod.mk.injEq]at h
   obtain ⟨rfl,rfl,rfl⟩:=h
   exact ⟨hI,⟨[],by simp⟩,pure_den _ _ hb hd⟩
 ·simp only[Option.some.injEq,Prod.mk.injEq]at h
  obtain ⟨rfl,rfl,rfl⟩:=h
  exact ⟨hI,⟨[],by simp⟩,by simp[Den]⟩
 ·cases hb:x.pure with
  | false=>rw[hb]at h;simp at h
  | true=>
   rw[hb]at h
   simp only[cond_true,Option.some.injEq,Prod.mk.injEq]at h
   obtain ⟨rfl,rfl,rfl⟩:=h
   exact ⟨hI,⟨[],by simp⟩,gen_den _ _ (pure_den _ _ hb hd)⟩
 ·simp only[Option.some.injEq,Prod.mk.injEq]at h
  obtain ⟨rfl,rfl,rfl⟩:=h
  exact ⟨hI,⟨[],by simp⟩,hd⟩
 ·simp at h
theorem canonL_sound (hH:Holds β T m w0 w):∀ {pts:List Pt} {xs:List SV} {vs vs':List Vw} {p:Ob} {ys:List SV} {us:List Value},VI β m w vs→canonL m pts xs vs=some (p,ys,vs')→p.ok→DenL β xs us→
  VI β m w vs'∧DenL (cenv β vs') ys us∧∃l,vs'=vs++l
 | [],[],vs,vs',p,ys,us,hI,h,hp,hd=>by
  simp only[canonL,Option.some.injEq,Prod.mk.injEq]at h
  obtain ⟨rfl,rfl,rfl⟩:=h
  exact ⟨hI,hd,[],by simp⟩
 | pt::pts,x::xs,vs,vs',p,ys,us,hI,h,hp,hd=>by
  simp only[canonL]at h
  split at h
  ·rename_i p1 y vs1 h1
   simp only[Option.map_eq_some_iff,Prod.exists,Prod.mk.injEq]at h
   obtain ⟨q,l2,vs2,h2,rfl,rfl,rfl⟩:=h
   obtain ⟨hp1,hp2⟩:=Ob.and_ok hp
   rw[DenL.cons']at hd
   obtain ⟨v,us',rfl,d1,d2⟩:=hd
   obtain ⟨k1,⟨a1,k2⟩,k3⟩:=canon1_sound hH hI h1 hp1 d1
   obtain ⟨k4,k5,a2,k6⟩:=canonL_sound hH k1 h2 hp2 d2
   subst k2;subst k6
   refine ⟨k4,?_,a1++a2,by simp⟩
   rw[DenL.cons]
   exact ⟨Den.mono (cenv_append _ _) _ _ k3,k5⟩
  ·simp at h
 | [],_::_,_,_,_,_,_,_,h,_,_=>by simp[canonL]at h
 | _::_,[],_,_,_,_,_,_,h,_,_=>by simp[canonL]at h
theorem globs_sound (hgb:∀g,β (gid g)=some (g,0)) (hH:Holds β T m w0 w):∀ {gs:List Nat} {vs vs':List Vw},VI β m w vs→(∀v∈vs,v.ro=true)→globs m gs vs=some vs'→VI β m w vs'
 | [],vs,vs',hI,_,h=>by simp[globs]at h;subst h;exact hI
 | g::gs,vs,vs',hI,hro,h=>by
  simp only[globs]at h
  split at h
  ·rename_i rg hg
   generalize hbb:(rg.c.pure && vs.all (fun v=> !Nat.beq v.q (gid g)))=bb at h
   cases bb with
   | false=>simp at h
   | true=>
    simp only[cond_true]at h
    simp only[Bool.and_eq_true,List.all_eq_true,Bool.not_eq_true']at hbb
    obtain ⟨b,ob,arr,t,fz,vs0,e1,e2,e3,e4,e5⟩:=(hH.reg _ rg hg).ex
    have h0:=hgb g
    rw[e1]at h0
    injection h0 with h0;injection h0 with e6 e7
    subst e6;subst e7
    refine globs_sound hgb hH (hI.snoc (v:=⟨gid b,gid b,.lit 0,true,rg.c⟩) hg e1 e2 (Ct.pure_den hbb.1 e3) (fun i u hi=> ?_) (fun h=>by cases h) ?_ (.inr ⟨by unfold gid;simp,rfl,?_⟩) (fun u hu=>⟨fun e=> ?_,.inl ⟨hro u hu,rfl⟩⟩)) ?_ h
    ·simpa [N.val]using e4 i u hi
    ·rw[←Ct.den_length e3];simp[N.val]
    ·show β (gid b)=_
     rw[e1];unfold gid;simp
    ·have:=hbb.2 u hu
     rw[e,Nat.beq_refl]at this
     cases this
    ·intro v hv
     rcases List.mem_append.1 hv with hv | hv
     ·exact hro v hv
     ·have:v=⟨gid b,gid b,.lit 0,true,rg.c⟩:=by simpa using hv
      subst this;rfl
  ·simp at h
def Tc (β:Env) (vs:List Vw):Nat→Nat→Prop:=fun b i=>∃v∈vs,v.ro=false∧∃o,β v.r=some (b,o)∧o+v.o.val≤i∧i<o+v.o.val+v.c.len
theorem vsMem_get {vs:List Vw} {q:Nat} {g:Reg} (h:(vsMem vs).get q=some g):∃v∈vs,v.q=q∧g=⟨v.ro,v.c⟩:=by
 unfold vsMem memL vsL at h
 rcases get_fold_set _ _ h with h | h
 ·obtain ⟨v,hv,he⟩:=List.mem_map.1 h
  injection he with e1 e2
  exact ⟨v,hv,e1,e2.symm⟩
 ·rw[Tr.get_leaf]at h;cases h
theorem VI.holds (hH:Holds β T m w0 w) {vs:List Vw} (hI:VI β m w vs):Holds (cenv β vs) (Tc β vs) (vsMem vs) w w:=by
 refine ⟨Fr.refl _ _,fun q g hg=> ?_,fun q s g h hne hg hh hro b o o' hb hb'=> ?_⟩
 ·obtain ⟨v,hv,rfl,rfl⟩:=vsMem_get hg
  obtain ⟨g,b,o,arr,t,fz,us,h1,h2,h3,h4,h5,h6,h7⟩:=(hI.ok v hv).ex
  refine ⟨b,o+v.o.val,arr,t,fz,us,(hI.ok v hv).nm b o h2,h3,h4,h5,fun hro i hi=> ?_⟩
  simp only at hro
  obtain ⟨b',o',arr',t',fz',vs0,e1,e2,e3,e4,e5⟩:=(hH.reg _ g h1).ex
  rw[h2]at e1
  injection e1 with e1;injection e1 with e6 e7
  subst e6;subst e7
  rw[h3]at e2
  injection e2 with e2;injection e2 with e6 e7 e8
  subst e8
  have hl:=Ct.den_length e3
  have:=e5 (h6 hro) (v.o.val+i) (by omega)
  refine ⟨by have:=this.1;omega,.inr ⟨v,hv,hro,o,h2,by omega,?_⟩⟩
  rw[←Ct.den_length h4];omega
 ·obtain ⟨u,hu,rfl,rfl⟩:=vsMem_get hg
  obtain ⟨v,hv,rfl,rfl⟩:=vsMem_get hh
  rcases hI.side u hu v hv with rfl | hs
  ·exact absurd rfl hne
  ·obtain ⟨gu,bu,ou,_,_,_,us,a1,a2,a3,a4,a5,a6,a7⟩:=(hI.ok u hu).ex
   obtain ⟨gv,bv,ov,_,_,_,us',c1,c2,c3,c4,c5,c6,c7⟩:=(hI.ok v hv).ex
   have n1:=(hI.ok u hu).nm bu ou a2
   have n2:=(hI.ok v hv).nm bv ov c2
   rw[hb]at n1
   rw[hb']at n2
   injection n1 with n1;injection n1 with x1 x2
   injection n2 with n2;injection n2 with y1 y2
   subst x1;subst x2;subst y2
   have lu:=Ct.den_length a4
   have lv:=Ct.den_length c4
   show ou+u.o.val+u.c.len≤ov+v.o.val∨ov+v.o.val+v.c.len≤ou+u.o.val∨u.c.len=0∨v.c.len=0
   simp only at hro
   rcases hs.2 with ⟨r1,r2⟩ | hs
   ·rw[r1,r2]at hro;rcases hro with h | h<;>cases h
   ·by_cases hr:u.r=v.r
    ·rw[hr]at a2
     rw[a2]at c2
     injection c2 with c2;injection c2 with z1 z2
     subst z2
     rcases hs hr with h | h<;>omega
    ·have hg':gu.ro=false∨gv.ro=false:=hro.imp a6 c6
     rw[←y1]at c2
     have:=hH.disj u.r v.r gu gv hr a1 c1 hg' b ou ov a2 c2
     omega
end
section
variable {β:Env} {T:Nat→Nat→Prop} {m mi:Mem} {w0 w w':World}
structure Mix (β:Env) (T:Nat→Nat→Prop) (mi:Mem) (w0 w w':World) (L:List Vw) (m:Mem):Prop where
 reg:∀r g,m.get r=some g→∃b o arr t fz vs0,β r=some (b,o)∧w'.heap[b]? =some (.cells arr t fz)∧g.c.den β vs0∧
  (∀i u,vs0[i]? =some u→(∀v∈L,v.ro=false→v.r=r→¬(v.o.val≤i∧i<v.o.val+v.c.len))→arr[o+i]? =some u)∧
  (g.ro=false→∀i,i<vs0.length→¬(fz.1≤o+i∧o+i<fz.2)∧(w0.heap.size≤b∨T b (o+i)))∧b<w.heap.size
 old:∀r g,m.get r=some g→∃g0,mi.get r=some g0∧g0.ro=g.ro∧g0.c.len=g.c.len
theorem Mix.first (hH:Holds β T mi w0 w) {vs:List Vw} (hI:VI β mi w vs) (hf:Fr (Tc β vs) w w'):Mix β T mi w0 w w' vs mi:=by
 refine ⟨fun r g hg=> ?_,fun r g hg=>⟨g,hg,rfl,rfl⟩⟩
 obtain ⟨b,o,arr,t,fz,vs0,e1,e2,e3,e4,e5⟩:=(hH.reg r g hg).ex
 have hb:b<w.heap.size:=(Array.getElem?_eq_some_iff.1 e2).1
 have:=hf.blk b hb
 rw[e2]at this
 obtain ⟨arr',h1,h2,h3⟩:=this
 refine ⟨b,o,arr',t,fz,vs0,e1,h1,e3,fun i u hi hv=> ?_,e5,hb⟩
 rw[h3]
 ·exact e4 i u hi
 ·rintro ⟨v,hv1,hro,o2,k1,k2,k3⟩
  have hil:=(List.getElem?_eq_some_iff.1 hi).1
  obtain ⟨gv,bv,ov,_,_,_,us,a1,a2,a3,a4,a5,a6,a7⟩:=(hI.ok v hv1).ex
  rw[k1]at a2
  injection a2 with a2;injection a2 with x1 x2
  subst x1;subst x2
  have lv:=Ct.den_length a4
  have lg:=Ct.den_length e3
  by_cases hr:v.r=r
  ·have:=hv v hv1 hro hr
   rw[hr]at k1
   rw[k1]at e1
   injection e1 with e1;injection e1 with y1 y2
   omega
  ·have:=hH.disj v.r r gv g hr a1 hg (.inl (a6 hro)) b o2 o k1 e1
   omega
theorem Mix.skip {v:Vw} {L:List Vw} (h:Mix β T mi w0 w w' (v::L) m) (hv:v.ro=true):Mix β T mi w0 w w' L m:=by
 refine ⟨fun r g hg=> ?_,h.old⟩
 obtain ⟨b,o,arr,t,fz,vs0,e1,e2,e3,e4,e5⟩:=h.reg r g hg
 refine ⟨b,o,arr,t,fz,vs0,e1,e2,e3,fun i u hi hx=>e4 i u hi fun z hz hro=> ?_,e5⟩
 rcases List.mem_cons.1 hz with rfl | hz
 ·rw[hv]at hro;cases hro
 ·exact hx z hz hro
theorem Mix.stow {v:Vw} {L:List Vw} (h:Mix β T mi w0 w w' (v::L) m) {β1:Env} {B:Nat} {T1:Nat→Nat→Prop} {g hh:Reg} {c2:Ct} {q:Ob} (hg:m.get v.r=some g) (hro:g.ro=false)
  (hreg:RegOk β1 B T1 w' v.q hh) (hnm:∀b o,β v.r=some (b,o)→β1 v.q=some (b,o+v.o.val)) (hp:hh.c.gen.pure=true) (hl:hh.c.len=v.c.len)
  (hs:stow g.c v.o hh.c.gen=some (q,c2)) (hq:q.ok):Mix β T mi w0 w w' L (put m v.r ⟨false,c2⟩):=by
 obtain ⟨b,o,arr,t,fz,vs0,e1,e2,e3,e4,e5,e6⟩:=h.reg _ g hg
 obtain ⟨b1,o1,arr1,t1,fz1,us,k1,k2,k3,k4,k5⟩:=hreg.ex
 rw[hnm b o e1]at k1
 injection k1 with k1;injection k1 with x1 x2
 subst x1;subst x2
 rw[e2]at k2
 injection k2 with k2;injection k2 with x1 x2 x3
 subst x1;subst x2;subst x3
 obtain ⟨f1,f2,f3⟩:=stow_spec e3 (Ct.pure_den hp (Ct.gen_den k3)) hs hq
 have lu:=Ct.den_length k3
 refine ⟨fun r' g' hg'=> ?_,fun r' g' hg'=> ?_⟩
 ·rcases get_put_mem hg' with ⟨rfl,rfl⟩ | ⟨hne,hg'⟩
  ·refine ⟨b,o,arr,t,fz,_,e1,e2,f1,fun i u hi hx=> ?_,fun _ i hi=>e5 hro i (by rwa [splice_length f2]at hi),e6⟩
   rw[getElem?_splice f2]at hi
   by_cases h1:i<v.o.val
   ·rw[if_pos h1]at hi
    refine e4 i u hi fun z hz hzr hzz=> ?_
    rcases List.mem_cons.1 hz with rfl | hz
    ·omega
    ·exact hx z hz hzr hzz
   ·rw[if_neg h1]at hi
    by_cases h2:i<v.o.val+us.length
    ·rw[if_pos h2]at hi
     have:=k4 _ _ hi
     rw[show o+v.o.val+(i-v.o.val)=o+i by omega]at this
     exact this
    ·rw[if_neg h2]at hi
     refine e4 i u hi fun z hz hzr hzz=> ?_
     rcases List.mem_cons.1 hz with rfl | hz
     ·omega
     ·exact hx z hz hzr hzz
  ·obtain ⟨b,o,arr,t,fz,vs0,e1,e2,e3,e4,e5⟩:=h.reg _ g' hg'
   refine ⟨b,o,arr,t,fz,vs0,e1,e2,e3,fun i u hi hx=>e4 i u hi fun z hz hzr hzz=> ?_,e5⟩
   rcases List.mem_cons.1 hz with rfl | hz
   ·exact absurd hzz.symm hne
   ·exact hx z hz hzr hzz
 ·rcases get_put_mem hg' with ⟨rfl,rfl⟩ | ⟨hne,hg'⟩
  ·obtain ⟨g0,a1,a2,a3⟩:=h.old _ g hg
   exact ⟨g0,a1,by rw[a2,hro],by rw[a3];exact f3.symm⟩
  ·exact h.old _ _ hg'
theorem stowL_sound {β1:Env} {B:Nat} {T1:Nat→Nat→Prop} {cm:Mem} (hC:∀q g,cm.get q=some g→RegOk β1 B T1 w' q g):
  ∀ {L:List Vw} {m m':Mem} {p:Ob},(∀v∈L,∀b o,β v.r=some (b,o)→β1 v.q=some (b,o+v.o.val))→Mix β T mi w0 w w' L m→stowL cm L m=some (p,m')→p.ok→
   Mix β T mi w0 w w' [] m'∧∀v∈L,v.ro=false→∃h,cm.get v.q=some h∧h.ro=false∧h.c.len=v.c.len
 | [],m,m',p,_,hM,h,_=>by
  simp only[stowL,Option.some.injEq,Prod.mk.injEq]at h
  obtain ⟨rfl,rfl⟩:=h
  exact ⟨hM,nofun⟩
 | v::L,m,m',p,hn,hM,h,hp=>by
  simp only[stowL]at h
  cases hv:v.ro with
  | true=>
   rw[hv]at h
   simp only[cond_true]at h
   obtain ⟨k1,k2⟩:=stowL_sound hC (fun z hz=>hn z (by simp[hz])) (hM.skip hv) h hp
   refine ⟨k1,fun z hz hro=> ?_⟩
   rcases List.mem_cons.1 hz with rfl | hz
   ·rw[hv]at hro;cases hro
   ·exact k2 z hz hro
  | false=>
   rw[hv]at h
   simp only[cond_false]at h
   split at h
   ·rename_i hh g hq hg
    generalize hbb:(hh.ro || g.ro || !hh.c.gen.pure)=bb at h
    cases bb with
    | true=>simp at h
    | false=>
     simp only[cond_false]at h
     simp only[Bool.or_eq_false_iff,Bool.not_eq_false']at hbb
     obtain ⟨⟨b1,b2⟩,b3⟩:=hbb
     split at h
     ·rename_i p1 q1 c2 hl hs
      simp only[Option.map_eq_some_iff,Prod.exists,Prod.mk.injEq]at h
      obtain ⟨s,m2,h2,rfl,rfl⟩:=h
      obtain ⟨hp1,hp2⟩:=Ob.and_ok hp
      obtain ⟨hp2,hp3⟩:=Ob.and_ok hp2
      obtain ⟨k1,k2⟩:=stowL_sound hC (fun z hz=>hn z (by simp[hz])) (hM.stow hg b2 (hC _ _ hq) (hn v (by simp)) b3 (by rw[←Ct.gen_len];exact lenOb_spec hl hp1) hs hp2) h2 hp3
      refine ⟨k1,fun z hz hro=> ?_⟩
      rcases List.mem_cons.1 hz with rfl | hz
      ·exact ⟨hh,hq,b1,by rw[←Ct.gen_len];exact lenOb_spec hl hp1⟩
      ·exact k2 z hz hro
     ·simp at h
   ·simp at h
theorem Mix.holds (hH:Holds β T mi w0 w) (h:Mix β T mi w0 w w' [] m) {T1:Nat→Nat→Prop} (hT:∀b i,b<w0.heap.size→T1 b i→T b i) (hf:Fr T1 w w'):Holds β T m w0 w':=by
 refine ⟨⟨hf.os.trans hH.fr.os,hf.tape.trans hH.fr.tape,hf.output.trans hH.fr.output,Nat.le_trans hH.fr.size hf.size,fun b hb=>(hH.fr.blk b hb).trans ((hf.blk b (Nat.lt_of_lt_of_le hb hH.fr.size)).mono fun i hi=>hT b i hb hi)⟩,fun r g hg=> ?_,fun r s g k hne hg hk hro b o o' hb hb'=> ?_⟩
 ·obtain ⟨b,o,arr,t,fz,vs0,e1,e2,e3,e4,e5,_⟩:=h.reg r g hg
  exact ⟨b,o,arr,t,fz,vs0,e1,e2,e3,fun i u hi=>e4 i u hi nofun,e5⟩
 ·obtain ⟨g0,a1,a2,a3⟩:=h.old _ g hg
  obtain ⟨k0,c1,c2,c3⟩:=h.old _ k hk
  have:=hH.disj r s g0 k0 hne a1 c1 (by rw[a2,c2];exact hro) b o o' hb hb'
  rw[a3,c3]at this
  exact this
mutual
theorem backS_den {β1 β':Env} {f:Nat→Option (Nat×N)} (hf:∀q r o,f q=some (r,o)→∀b ob,β1 q=some (b,ob)→∃bo,β' r=some (b,bo)∧ob=bo+o.val):
  ∀(s s':SV) (v:Value),backS f s=some s'→Den β1 s v→Den β' s' v
 | .any,s',v,h,_=>by simp only[backS,Option.some.injEq]at h;subst h;simp[Den]
 | .int _ _,s',v,h,hd=>by simp only[backS,Option.some.injEq]at h;subst h;exact hd
 | .bool _,s',v,h,hd=>by simp only[backS,Option.some.injEq]at h;subst h;exact hd
 | .bytes _,s',v,h,hd=>by simp only[backS,Option.some.injEq]at h;subst h;exact hd
 | .val _,s',v,h,hd=>by simp only[backS,Option.some.injEq]at h;subst h;exact hd
 | .ptr q o,s',v,h,hd=>by
  simp only[backS,Option.map_eq_some_iff,Prod.exists]at h
  obtain ⟨r,o',h1,rfl⟩:=h
  simp only[Den]at hd ⊢
  obtain ⟨b,ob,hb,rfl⟩:=hd
  obtain ⟨bo,k1,rfl⟩:=hf q r o' h1 b ob hb
  exact ⟨b,bo,k1,by rw[N.add_val,Nat.add_assoc]⟩
 | .slice q o l c,s',v,h,hd=>by
  simp only[backS,Option.map_eq_some_iff,Prod.exists]at h
  obtain ⟨r,o',h1,rfl⟩:=h
  simp only[Den]at hd ⊢
  obtain ⟨b,ob,hb,rfl⟩:=hd
  obtain ⟨bo,k1,rfl⟩:=hf q r o' h1 b ob hb
  exact ⟨b,bo,k1,by rw[N.add_val,Nat.add_assoc]⟩
 | .iface t s,s',v,h,hd=>by
  simp only[backS,Option.map_eq_some_iff]at h
  obtain ⟨s1,h1,rfl⟩:=h
  simp only[Den]at hd ⊢
  obtain ⟨u,k1,k2⟩:=hd
  exact ⟨u,backS_den hf s s1 u h1 k1,k2⟩
 | .agg l,s',v,h,hd=>by
  simp only[backS,Option.map_eq_some_iff]at h
  obtain ⟨s1,h1,rfl⟩:=h
  simp only[Den]at hd ⊢
  obtain ⟨u,k1,k2⟩:=hd
  exact ⟨u,backL_den hf l s1 u h1 k1,k2⟩
 | .tup l,s',v,h,hd=>by
  simp only[backS,Option.map_eq_some_iff]at h
  obtain ⟨s1,h1,rfl⟩:=h
  simp only[Den]at hd ⊢
  obtain ⟨u,k1,k2⟩:=hd
  exact ⟨u,backL_den hf l s1 u h1 k1,k2⟩
theorem backL_den {β1 β':Env} {f:Nat→Option (Nat×N)} (hf:∀q r o,f q=some (r,o)→∀b ob,β1 q=some (b,ob)→∃bo,β' r=some (b,bo)∧ob=bo+o.val):
  ∀(l l':List SV) (vs:List Value),backL f l=some l'→DenL β1 l vs→DenL β' l' vs
 | [],l',vs,h,hd=>by simp only[backL,Option.some.injEq]at h;subst h;exact hd
 | s::l,l',vs,h,hd=>by
  simp only[backL]at h
  split at h
  ·rename_i s1 l1 h1 h2
   simp only[Option.some.injEq]at h
   subst h
   rw[DenL.cons']at hd ⊢
   obtain ⟨v,vs',k1,k2,k3⟩:=hd
   exact ⟨v,vs',k1,backS_den hf s s1 v h1 k2,backL_den hf l l1 vs' h2 k3⟩
  ·simp at h
 end
theorem find_q {vs:List Vw} {q:Nat} {v:Vw} (h:vs.find? (fun v=>Nat.beq v.q q)=some v):v∈vs∧v.q=q:=
 ⟨List.mem_of_find?_eq_some h,Nat.eq_of_beq_eq_true (List.find?_some (p:=fun v:Vw=>Nat.beq v.q q) h)⟩
theorem back_sound (hH:Holds β T m w0 w) {vs:List Vw} (hI:VI β m w vs) {n:Nat} (hfr:∀j,j<4→β (rid n j)=none)
  {β1:Env} (hle:EnvLe (cenv β vs) β1) {cm:Mem} (hC:Holds β1 (Tc β vs) cm w w') {sv:SV} {v:Value} (hd:Den β1 sv v) {k:SV→Mem→Prop} (h:back vs n m k sv cm):
  ∃β' sv' m',Ext β β' n∧Den β' sv' v∧Holds β' T m' w0 w'∧k sv' m':=by
 have hnm:∀v∈vs,∀b o,β v.r=some (b,o)→β1 v.q=some (b,o+v.o.val):=fun v hv b o hb=>hle _ _ ((hI.ok v hv).nm b o hb)
 have hT:∀b i,b<w0.heap.size→Tc β vs b i→T b i:=by
  rintro b i hb ⟨v,hv,hro,o,h1,h2,h3⟩
  obtain ⟨g,b',o',arr,t,fz,us,a1,a2,a3,a4,a5,a6,a7⟩:=(hI.ok v hv).ex
  rw[h1]at a2
  injection a2 with a2;injection a2 with x1 x2
  subst x1;subst x2
  obtain ⟨b2,o2,arr2,t2,fz2,vs0,e1,e2,e3,e4,e5⟩:=(hH.reg _ g a1).ex
  rw[h1]at e1
  injection e1 with e1;injection e1 with x1 x2
  subst x1;subst x2
  have l1:=Ct.den_length a4
  have l2:=Ct.den_length e3
  have:=(e5 (a6 hro) (i-o) (by omega)).2
  rw[show o+(i-o)=i by omega]at this
  rcases this with h | h
  ·omega
  ·exact h
 unfold back at h
 split at h
 ·exact h.elim
 ·rename_i p m' hst
  rw[then_iff]at h
  obtain ⟨hp,h⟩:=h
  obtain ⟨hM,hviews⟩:=stowL_sound hC.reg hnm (Mix.first hH hI hC.fr) hst hp
  have hHm:=hM.holds hH hT hC.fr
  have hview:∀q r o,(∃v,vs.find? (fun v=>Nat.beq v.q q)=some v∧r=v.r∧o=v.o)→∀b ob,β1 q=some (b,ob)→∃bo,β r=some (b,bo)∧ob=bo+o.val:=by
   rintro q r o ⟨v,hv,rfl,rfl⟩ b ob hb
   obtain ⟨hv1,rfl⟩:=find_q hv
   obtain ⟨g,b',o',arr,t,fz,us,a1,a2,a3,a4,a5,a6,a7⟩:=(hI.ok v hv1).ex
   have:=hnm v hv1 b' o' a2
   rw[hb]at this
   injection this with this;injection this with x1 x2
   subst x1;subst x2
   exact ⟨o',a2,rfl⟩
  split at h
  ·split at h
   ·rename_i sv' hb
    refine ⟨β,sv',m',ext_refl _ _,backS_den (fun q r o hq b ob hbq=> ?_) _ _ _ hb (gen_den _ _ hd),hHm,h⟩
    refine hview q r o ?_ b ob hbq
    unfold backR at hq
    split at hq
    ·rename_i z hz
     simp only[Option.some.injEq,Prod.mk.injEq]at hq
     exact ⟨z,hz,hq.1.symm,hq.2.symm⟩
    ·simp at hq
   ·exact h.elim
  ·rename_i q hq
   split at h
   ·rename_i hh hcq
    generalize hbb:(hh.ro || !hh.c.gen.pure || Nat.beq (q%2) 0)=bb at h
    cases bb with
    | true=>exact h.elim
    | false=>
     simp only[cond_false]at h
     simp only[Bool.or_eq_false_iff,Bool.not_eq_false']at hbb
     obtain ⟨⟨b1,b2⟩,b3⟩:=hbb
     split at h
     ·rename_i sv' hb
      obtain ⟨b,o,arr,t,fz,us,k1,k2,k3,k4,k5⟩:=(hC.reg q hh hcq).ex
      have lu:=Ct.den_length k3
      -- is it none of the parts?
      have hnot:∀v∈vs,v.q≠q:=by
       have gen:(∀s:SV,freshR vs s=some q→∀v∈vs,v.q≠q):=by
        intro s
        have base:∀q',(bif vs.any (fun v=>Nat.beq v.q q')then none else some q')=some q→∀v∈vs,v.q≠q:=by
         intro q' hx v hv he
         cases hany:vs.any (fun v=>Nat.beq v.q q')with
         | true=>rw[hany]at hx;simp at hx
         | false=>
          rw[hany]at hx
          simp only[cond_false,Option.some.injEq]at hx
          subst hx
          rw[List.any_eq_false]at hany
          exact hany v hv (by rw[he];exact Nat.beq_refl _)
        exact SV.rec (motive_1:=fun s=>freshR vs s=some q→∀v∈vs,v.q≠q) (motive_2:=fun l=>freshL vs l=some q→∀v∈vs,v.q≠q)
         (by intro h;simp[freshR]at h) (by intro k a h;simp[freshR]at h) (by intro b h;simp[freshR]at h)
         (by intro r off h;simp only[freshR]at h;exact base _ h) (by intro r off l c h;simp only[freshR]at h;exact base _ h)
         (by intro t v ih h;simp only[freshR]at h;exact ih h) (by intro l ih h;simp only[freshR]at h;exact ih h) (by intro l ih h;simp only[freshR]at h;exact ih h)
         (by intro xs h;simp[freshR]at h) (by intro v h;simp[freshR]at h)
         (by intro h;simp[freshL]at h)
         (by
          intro s l ih1 ih2 h
          simp only[freshL]at h
          split at h
          ·rename_i q' hq'
           simp only[Option.some.injEq]at h
           subst h
           exact ih1 hq'
          ·exact ih2 h) s
       exact gen sv hq
      have hbig:0<hh.c.len→w.heap.size≤b:=by
       intro hpos
       have:=(k5 b1 0 (by omega)).2
       rcases this with h | ⟨v,hv,hro,o2,h1,h2,h3⟩
       ·exact h
       ·exfalso
        obtain ⟨hv',e1,e2,e3⟩:=hviews v hv hro
        have n1:=hnm v hv b o2 h1
        have:=hC.disj q v.q hh hv' (fun e=>hnot v hv e.symm) hcq e1 (.inl b1) b o (o2+v.o.val) k1 n1
        omega
      have hnone:=hfr 0 (by omega)
      have hle':EnvLe β (upd β (rid n 0) (b,o)):=upd_le hnone
      refine ⟨upd β (rid n 0) (b,o),sv',put m' (rid n 0) ⟨false,hh.c.gen⟩,ext_upd,backS_den (fun q' r o' hq' b' ob hbq=> ?_) _ _ _ hb (gen_den _ _ hd),?_,h⟩
      ·unfold backR at hq'
       split at hq'
       ·rename_i z hz
        simp only[Option.some.injEq,Prod.mk.injEq]at hq'
        obtain ⟨bo,x1,x2⟩:=hview q' r o' ⟨z,hz,hq'.1.symm,hq'.2.symm⟩ b' ob hbq
        exact ⟨bo,hle' _ _ x1,x2⟩
       ·simp only at hq'
        cases hbe:Nat.beq q' q with
        | false=>rw[hbe]at hq';simp at hq'
        | true=>
         rw[hbe]at hq'
         simp only[cond_true,Option.some.injEq,Prod.mk.injEq]at hq'
         obtain ⟨rfl,rfl⟩:=hq'
         have:=Nat.eq_of_beq_eq_true hbe
         subst this
         rw[k1]at hbq
         injection hbq with hbq;injection hbq with x1 x2
         subst x1;subst x2
         exact ⟨o,by simp[upd],by simp[N.lit_val]⟩
      ·have hH2:=hHm.mono hle'
       have hbl:∀r g,m'.get r=some g→∀b' o',upd β (rid n 0) (b,o) r=some (b',o')→r≠rid n 0→b'<w.heap.size:=by
        intro r g hg b' o' hb' hne
        obtain ⟨b3,o3,_,_,_,_,e1,_,_,_,_,e6⟩:=hM.reg r g hg
        have:=hle' _ _ e1
        rw[hb']at this
        injection this with this;injection this with x1 x2
        omega
       refine ⟨hH2.fr,fun r g hg=> ?_,fun r s g k hne hg hk hro c oo oo' hc hc'=> ?_⟩
       ·rcases get_put_mem hg with ⟨rfl,rfl⟩ | ⟨hne,hg⟩
        ·refine ⟨b,o,arr,t,fz,us,by simp[upd],k2,Ct.pure_den b2 (Ct.gen_den k3),k4,fun _ i hi=>⟨(k5 b1 i hi).1,.inl ?_⟩⟩
         exact Nat.le_trans hH.fr.size (hbig (by omega))
        ·exact hH2.reg r g hg
       ·rcases get_put_mem hg with ⟨rfl,rfl⟩ | ⟨hne1,hg⟩<;>rcases get_put_mem hk with ⟨rfl,rfl⟩ | ⟨hne2,hk⟩
        ·exact absurd rfl hne
        ·have h1:=hbl s k hk c oo' hc' hne2
         simp only[upd,if_true,Option.some.injEq,Prod.mk.injEq]at hc
         show _∨_∨hh.c.gen.len=0∨_
         rw[Ct.gen_len]
         rcases Nat.eq_zero_or_pos hh.c.len with h0 | h0
         ·omega
         ·have:=hbig h0;omega
        ·have h1:=hbl r g hg c oo hc hne1
         simp only[upd,if_true,Option.some.injEq,Prod.mk.injEq]at hc'
         show _∨_∨_∨hh.c.gen.len=0
         rw[Ct.gen_len]
         rcases Nat.eq_zero_or_pos hh.c.len with h0 | h0
         ·omega
         ·have:=hbig h0;omega
        ·exact hH2.disj r s g k hne hg hk hro c oo oo' hc hc'
     ·exact h.elim
   ·exact h.elim
theorem back_mono {vs:List Vw} {n:Nat} {k k':SV→Mem→Prop} (hk:∀v m',k v m'→k' v m') {sv:SV} {cm:Mem} (h:back vs n m k sv cm):back vs n m k' sv cm:=by
 unfold back at h ⊢
 split at h
 ·exact h.elim
 ·rw[then_iff]at h ⊢
  refine ⟨h.1,?_⟩
  have h:=h.2
  split at h
  ·split at h
   ·exact hk _ _ h
   ·exact h.elim
  ·split at h
   ·generalize (_ || _ || _)=bb at h ⊢
    cases bb with
    | true=>exact h
    | false=>
     simp only[cond_false]at h ⊢
     split at h
     ·exact hk _ _ h
     ·exact h.elim
   ·exact h.elim
def MemUp (m m':Mem):Prop:=∀r g,m.get r=some g→∃g',m'.get r=some g'∧g'.ro=g.ro∧g'.c.gen=g.c.gen
def KUp (K:SV→Mem→Prop):Prop:=∀v v' m m',SV.gen v=SV.gen v'→MemUp m m'→K v m→K v' m'
theorem MemLe.up {m m':Mem} (h:MemLe m m'):MemUp m m':=fun r g hg=>⟨g,h r g hg,rfl,rfl⟩
theorem stowL_up {cm cm':Mem} (hle:MemUp cm cm'):∀ {L:List Vw} {m:Mem} {x:Ob×Mem},stowL cm L m=some x→stowL cm' L m=some x
 | [],m,x,h=>h
 | v::L,m,x,h=>by
  simp only[stowL]at h ⊢
  cases hv:v.ro with
  | true=>
   rw[hv]at h
   simp only[cond_true]at h ⊢
   exact stowL_up hle h
  | false=>
   rw[hv]at h
   simp only[cond_false]at h ⊢
   split at h
   ·rename_i hh g hq hg
    obtain ⟨hh',e1,e2,e3⟩:=hle _ _ hq
    rw[e1]
    simp only[hg,e2,e3]
    generalize (hh.ro || g.ro || !hh.c.gen.pure)=bb at h ⊢
    cases bb with
    | true=>simp at h
    | false=>
     simp only[cond_false]at h ⊢
     split at h
     ·rename_i p1 q1 c2 hl hs
      simp only[Option.map_eq_some_iff]at h ⊢
      obtain ⟨y,h1,h2⟩:=h
      exact ⟨y,stowL_up hle h1,h2⟩
     ·simp at h
   ·simp at h
mutual
theorem freshR_gen (vs:List Vw):∀s:SV,freshR vs s.gen=freshR vs s
 | .any=>rfl
 | .int _ _=>rfl
 | .bool _=>rfl
 | .ptr _ _=>rfl
 | .slice _ _ _ _=>rfl
 | .iface _ _=>rfl
 | .agg l=>by simp only[SV.gen,freshR];exact freshL_gen vs l
 | .tup _=>rfl
 | .bytes _=>rfl
 | .val _=>rfl
theorem freshL_gen (vs:List Vw):∀l:List SV,freshL vs (genL l)=freshL vs l
 | []=>rfl
 | s::l=>by simp only[genL,freshL,freshR_gen vs s,freshL_gen vs l]
 end
theorem back_up {vs:List Vw} {n:Nat} {k:SV→Mem→Prop}:KUp (back vs n m k):=by
 intro sv sv' cm cm' hsv hle h
 have hfr:freshR vs sv'=freshR vs sv:=by rw[←freshR_gen vs sv',←hsv,freshR_gen]
 unfold back at h ⊢
 split at h
 ·exact h.elim
 ·rename_i p m' hst
  rw[stowL_up hle hst]
  simp only
  rw[then_iff]at h ⊢
  refine ⟨h.1,?_⟩
  have h:=h.2
  rw[hfr,←hsv]
  split at h
  ·exact h
  ·split at h
   ·rename_i hh hg
    obtain ⟨hh',e1,e2,e3⟩:=hle _ _ hg
    rw[e1]
    simp only[e2,e3]
    exact h
   ·exact h.elim
theorem back_live {vs:List Vw} {n:Nat} {k:SV→Mem→Prop} {sv:SV} {cm:Mem} (h:back vs n m k sv cm):∃v m',k v m':=by
 unfold back at h
 split at h
 ·exact h.elim
 ·rw[then_iff]at h
  have h:=h.2
  split at h
  ·split at h
   ·exact ⟨_,_,h⟩
   ·exact h.elim
  ·split at h
   ·generalize (_ || _ || _)=bb at h
    cases bb with
    | true=>exact h.elim
    | false=>
     simp only[cond_false]at h
     split at h
     ·exact ⟨_,_,h⟩
     ·exact h.elim
   ·exact h.elim
end
theorem memL_snoc {l:List (Nat×Reg)} {q:Nat} {g:Reg} (h:Nat.blt q 4194304=true) (hn:∀x∈l,x.1≠q):MemLe (memL l) (memL (l++ [(q,g)])):=by
 intro r g' hg
 have e:memL (l++ [(q,g)])=Tr.set (memL l) q g:=by simp[memL]
 rw[e]
 have hr:r≠q:=by
  unfold memL at hg
  rcases get_fold_set _ _ hg with hg | hg
  ·exact hn _ hg
  ·rw[Tr.get_leaf]at hg;cases hg
 rw[Tr.get_set_ne h hr]
 exact hg
theorem MemLe.trans {a b c:Mem} (h:MemLe a b) (k:MemLe b c):MemLe a c:=fun r g hg=>k r g (h r g hg)
theorem memL_app:∀(k l:List (Nat×Reg)),(l++k).map (·.1) |>.Nodup→(∀x∈k,Nat.blt x.1 4194304=true)→MemLe (memL l) (memL (l++k))
 | [],l,_,_=>by simp;exact MemLe.refl _
 | x::k,l,hd,hb=>by
  have h1:=memL_snoc (l:=l) (q:=x.1) (g:=x.2) (hb x (by simp)) (fun y hy e=>by
   rw[List.map_append,List.nodup_append]at hd
   exact hd.2.2 y.1 (List.mem_map.2 ⟨y,hy,rfl⟩) x.1 (by simp) e)
  have h2:=memL_app k (l++ [x]) (by simpa using hd) (fun y hy=>hb y (by simp[hy]))
  rw[List.append_assoc]at h2
  exact h1.trans h2
theorem Ob.ok_and {p q:Ob} (h:p.ok) (k:q.ok):(p.and q).ok:=by
 cases p<;>cases q<;>first | trivial | exact h | exact k | exact ⟨h,k⟩
theorem nmSegs_iff:∀ {l:List Sg} {K:List Sg→Prop},nmSegs l K↔K l
 | [],K=>Iff.rfl
 | .ints k n xs::l,K=>⟨fun h=>(nmSegs_iff (l:=l) (K:=fun l'=>K (.ints k n xs::l'))).1 (h xs rfl),fun h ys e=>by subst e;exact (nmSegs_iff (l:=l) (K:=fun l'=>K (.ints k n _::l'))).2 h⟩
 | .cells c::l,K=>nmSegs_iff (l:=l) (K:=fun l'=>K (.cells c::l'))
theorem nmC_iff {c:Ct} {K:Ct→Prop}:nmC c K↔K c:=by
 cases c with
 | cells l=>exact Iff.rfl
 | ints k xs=>exact ⟨fun h=>h xs rfl,fun h ys e=>by subst e;exact h⟩
 | segs l=>exact nmSegs_iff
theorem stowK_iff {cm:Mem}:∀ {L:List Vw} {m:Mem} {K:Mem→Prop},stowK cm L m K↔∃p m',stowL cm L m=some (p,m')∧p.ok∧K m'
 | [],m,K=>⟨fun h=>⟨none,m,rfl,trivial,h⟩,fun ⟨p,m',h1,_,h3⟩=>by
   simp only[stowL,Option.some.injEq,Prod.mk.injEq]at h1
   obtain ⟨_,rfl⟩:=h1
   exact h3⟩
 | v::L,m,K=>by
  simp only[stowK,stowL]
  cases v.ro with
  | true=>exact stowK_iff
  | false=>
   simp only[cond_false]
   cases cm.get v.q with
   | none=>simp
   | some h=>
    cases m.get v.r with
    | none=>simp
    | some g=>
     simp only
     generalize (h.ro || g.ro || !h.c.gen.pure)=bb
     cases bb with
     | true=>simp
     | false=>
      simp only[cond_false]
      cases lenOb h.c.gen v.c with
      | none=>simp
      | some p=>
       cases stow g.c v.o h.c.gen with
       | none=>simp
       | some x=>
        obtain ⟨q,c2⟩:=x
        simp only[then_iff,nmC_iff,stowK_iff]
        constructor
        ·rintro ⟨h1,h2,p',m',h3,h4,h5⟩
         exact ⟨_,m',by rw[h3];rfl,Ob.ok_and h1 (Ob.ok_and h2 h4),h5⟩
        ·rintro ⟨p',m',h3,h4,h5⟩
         simp only[Option.map_eq_some_iff,Prod.exists,Prod.mk.injEq]at h3
         obtain ⟨s,m2,h6,rfl,rfl⟩:=h3
         obtain ⟨a1,a2⟩:=Ob.and_ok h4
         obtain ⟨a2,a3⟩:=Ob.and_ok a2
         exact ⟨a1,a2,s,m2,h6,a3,h5⟩
theorem backK_iff {vs:List Vw} {n:Nat} {m:Mem} {k:SV→Mem→Prop}:backK vs n m k=back vs n m k:=by
 funext sv cm
 apply propext
 unfold backK back
 rw[stowK_iff]
 simp only[nmC_iff]
 constructor
 ·rintro ⟨p,m',h1,h2,h3⟩
  rw[h1]
  simp only
  rw[then_iff]
  exact ⟨h2,h3⟩
 ·intro h
  split at h
  ·exact h.elim
  ·rename_i p m' h1
   rw[then_iff]at h
   exact ⟨p,m',h1,h.1,h.2⟩
theorem KUp.le {K:SV→Mem→Prop} (h:KUp K) {v:SV} {m m':Mem} (hm:MemLe m m') (hk:K v m):K v m':=h v v m m' rfl hm.up hk
theorem MemUp.set {t t':Mem} (h:MemUp t t') (n:Nat) {g g':Reg} (h1:g'.ro=g.ro) (h2:g'.c.gen=g.c.gen):MemUp (Tr.set t n g) (Tr.set t' n g'):=by
 intro r x hx
 cases hn:Nat.blt n 4194304 with
 | false=>unfold Tr.set at hx;rw[hn]at hx;simp[Tr.get_leaf]at hx
 | true=>
  rcases Tr.get_set hx with ⟨rfl,rfl⟩ | ⟨hne,hx⟩
  ·exact ⟨g',get_put_same hn,h1,h2⟩
  ·obtain ⟨y,e1,e2⟩:=h r x hx
   exact ⟨y,by rw[Tr.get_set_ne hn hne];exact e1,e2⟩
theorem memL_up:∀(l l':List (Nat×Reg)) (t t':Mem),MemUp t t'→l.map (fun x=>(x.1,x.2.ro,x.2.c.gen))=l'.map (fun x=>(x.1,x.2.ro,x.2.c.gen))→
  MemUp (l.foldl (fun t x=>Tr.set t x.1 x.2) t) (l'.foldl (fun t x=>Tr.set t x.1 x.2) t')
 | [],[],t,t',h,_=>h
 | x::l,x'::l',t,t',h,he=>by
  simp only[List.map_cons,List.cons.injEq,Prod.mk.injEq]at he
  obtain ⟨⟨e1,e2,e3⟩,e4⟩:=he
  simp only[List.foldl_cons]
  rw[←e1]
  exact memL_up l l' _ _ (h.set _ e2.symm e3.symm) e4
 | [],_::_,_,_,_,he=>by simp at he
 | _::_,[],_,_,_,he=>by simp at he
theorem KUp.gen {K:SV→Mem→Prop} (h:KUp K) {v v':SV} {l l':List (Nat×Reg)} (hv:v.gen=v'.gen) (hl:l.map (fun x=>(x.1,x.2.ro,x.2.c.gen))=l'.map (fun x=>(x.1,x.2.ro,x.2.c.gen))) (hk:K v (memL l)):K v' (memL l'):=
 h v v' _ _ hv (memL_up l l' .leaf .leaf (fun _ g hg=>⟨g,hg,rfl,rfl⟩) hl) hk
section
variable {P:Program}
theorem callFunc_enter {f:FuncId} {fn:Func} (hfn:P.funcs[f]? =some fn) (h1:(fn.name== "runtime.NumGoroutine")=false) (h2:fn.body.isNone=false) (vs:Array Value) (w:World):
  (callFunc f vs).run P w= .ok (.enter f vs) w:=by
 unfold callFunc
 simp only[Sem.run_bind]
 have:(program:Sem Program).run P w= .ok P w:=rfl
 simp only[this,Result.andThen_ok,hfn,h1,h2]
 rfl
structure Good (G:G0):Prop where
 mono:∀ {args m} {K K':SV→Mem→Prop},(∀v m',K v m'→K' v m')→G args m K→G args m K'
 live:∀ {args m} {K:SV→Mem→Prop},G args m K→∃v m',K v m'
theorem VI.fresh {β:Env} {m:Mem} {w:World} {vs:List Vw} (hI:VI β m w vs):∀n,64≤n→Fresh (cenv β vs) n:=by
 intro n hn j hj
 unfold cenv
 rw[if_neg (by unfold rid;omega)]
 have:vs.find? (fun v=>Nat.beq v.q (rid n j))=none:=by
  rw[List.find?_eq_none]
  intro z hz hb
  have:=Nat.eq_of_beq_eq_true hb
  rcases hI.num z hz with h | ⟨k,_,hk,he⟩
  ·rw[this]at h;unfold rid at h;omega
  ·rw[this]at he;unfold rid at he;omega
 rw[this]
theorem runE_sound (hP:P.follows .mixedOrders=true) {f:FuncId} {fn:Func} (hfn:P.funcs[f]? =some fn) (h1:(fn.name== "runtime.NumGoroutine")=false) (h2:fn.body.isNone=false)
  {Γ:Cx P} {gl:List Nat} {pts:List Pt} {G:G0} (hG:∀args l K,KUp K→G args l K→∃U,execF Γ U fn 64 args (memL l) K)
  (β:Env) (T:Nat→Nat→Prop) (m:Mem) (w0 w:World) (args:List SV) (vs:List Value) (n:Nat) (k:SV→Mem→Prop) (hgb:∀g,β (gid g)=some (g,0)) (hH:Holds β T m w0 w) (hd:DenL β args vs)
  (hf:∀j,j<4→β (rid n j)=none) (h:runE gl pts G n m args k):
  CallsX P f vs.toArray w fun e w'=>∃β' v sv m',e= .returned v∧Ext β β' n∧Den β' sv v∧Holds β' T m' w0 w'∧k sv m':=by
 unfold runE at h
 simp only[backK_iff]at h
 split at h
 ·exact h.elim
 ·rename_i vs0 hg
  split at h
  ·exact h.elim
  ·rename_i p cargs vws hc
   cases hb:Nat.blt (rid n 3) 4194304 with
   | false=>rw[hb]at h;exact h.elim
   | true=>
    rw[hb]at h
    simp only[cond_true]at h
    rw[then_iff]at h
    have hI0:=globs_sound hgb hH VI.nil nofun hg
    obtain ⟨hI,hdc,_⟩:=canonL_sound hH hI0 hc h.1 hd
    have hcg:∀g,cenv β vws (gid g)=some (g,0):=fun g=>by unfold cenv gid;rw[if_pos (by omega)];simp
    obtain ⟨U,hU⟩:=hG _ _ _ back_up h.2
    have:=execF_sound hP hfn (hI.holds hH) hdc hcg hI.fresh hU
    unfold CallsX
    rw[callFunc_enter hfn h1 h2]
    refine this.mono ?_
    rintro e w' ⟨β1,v,sv,cm,hle,rfl,k2,k3,k4⟩
    obtain ⟨β',sv',m',a1,a2,a3,a4⟩:=back_sound hH hI hf hle k3 k2 k4
    exact ⟨β',v,sv',m',rfl,a1,a2,a3,a4⟩
def mkE (hP:P.follows .mixedOrders=true) (f:FuncId) {fn:Func} (hfn:P.funcs[f]? =some fn) (h1:(fn.name== "runtime.NumGoroutine")=false) (h2:fn.body.isNone=false)
  {Γ:Cx P} (gl:List Nat) (pts:List Pt) (G:G0) (hgood:Good G) (hG:∀args l K,KUp K→G args l K→∃U,execF Γ U fn 64 args (memL l) K):Ef P where
 f:=f
 run:=runE gl pts G
 mono:=fun n m args k k' hk h=>by
  unfold runE at h ⊢
  simp only[backK_iff]at h ⊢
  split at h
  ·exact h.elim
  ·split at h
   ·exact h.elim
   ·generalize Nat.blt (rid n 3) 4194304=bb at h ⊢
    cases bb with
    | false=>exact h
    | true=>
     simp only[cond_true]at h ⊢
     rw[then_iff]at h ⊢
     exact ⟨h.1,hgood.mono (fun v m'=>back_mono hk) h.2⟩
 live:=fun n m args k h=>by
  unfold runE at h
  simp only[backK_iff]at h
  split at h
  ·exact h.elim
  ·split at h
   ·exact h.elim
   ·generalize Nat.blt (rid n 3) 4194304=bb at h
    cases bb with
    | false=>exact h.elim
    | true=>
     simp only[cond_true]at h
     rw[then_iff]at h
     obtain ⟨v,m',h⟩:=hgood.live h.2
     exact back_live h
 sound:=runE_sound hP hfn h1 h2 hG
 nw:=false
 keeps:=fun h=>by cases h
theorem stowL_ro {cm:Mem}:∀ {L:List Vw} {m:Mem},L.all (·.ro)=true→stowL cm L m=some (none,m)
 | [],_,_=>rfl
 | v::l,m,h=>by
  simp only[List.all_cons,Bool.and_eq_true]at h
  unfold stowL
  rw[h.1]
  exact stowL_ro h.2
theorem back_keeps {vs:List Vw} {n:Nat} {m:Mem} {k:SV→Mem→Prop} {sv:SV} {cm:Mem} (hr:vs.all (·.ro)=true) (h:back vs n m k sv cm):
  back vs n m (fun v m'=>(m'=m∨∃g,m'=Tr.set m (rid n 0) g)∧k v m') sv cm:=by
 unfold back at h ⊢
 rw[stowL_ro hr]at h ⊢
 simp only[Ob.then]at h ⊢
 split at h
 ·split at h
  ·rename_i hb
   first | (simp only[hb];exact ⟨.inl rfl,h⟩) | (rw[hb];exact ⟨.inl rfl,h⟩) | exact ⟨.inl trivial,h⟩ | exact ⟨by simp,h⟩
  ·exact h.elim
 ·rename_i q hq
  split at h
  ·rename_i g hg
   try simp only[hg]
   generalize hb:(g.ro || !g.c.gen.pure || Nat.beq (q%2) 0)=bb at h ⊢
   cases bb with
   | true=>exact h.elim
   | false=>
    simp only[cond_false]at h ⊢
    split at h
    ·rename_i hb2
     first | (simp only[hb2];exact ⟨.inr ⟨_,rfl⟩,h⟩) | (rw[hb2];exact ⟨.inr ⟨_,rfl⟩,h⟩) | exact ⟨.inr ⟨_,rfl⟩,h⟩ | exact ⟨by simp,h⟩
    ·exact h.elim
  ·exact h.elim
def runNw (gl:List Nat) (pts:List Pt) (G:G0) (n:Nat) (m:Mem) (args:List SV) (k:SV→Mem→Prop):Prop:=
 match globs m gl []with
 | none=>False
 | some vs0=>
  match canonL m pts args vs0 with
  | none=>False
  | some (p,cargs,vs)=>bif Nat.blt (rid n 3) 4194304 && vs.all (·.ro)then p.then (G cargs (vsL vs) (backK vs n m k))else False
theorem runNw_E {gl:List Nat} {pts:List Pt} {G:G0} {n:Nat} {m:Mem} {args:List SV} {k:SV→Mem→Prop} (h:runNw gl pts G n m args k):runE gl pts G n m args k:=by
 unfold runNw at h
 unfold runE
 split at h
 ·exact h.elim
 ·rename_i vs0 h0
  try simp only[h0]
  split at h
  ·exact h.elim
  ·rename_i p cargs vs h1
   try simp only[h1]
   cases hb:Nat.blt (rid n 3) 4194304 && vs.all (·.ro)with
   | false=>rw[hb]at h;exact h.elim
   | true=>
    rw[hb]at h
    simp only[Bool.and_eq_true]at hb
    rw[hb.1]
    exact h
theorem runNw_map {gl:List Nat} {pts:List Pt} {G:G0} (hgood:Good G) {n:Nat} {m:Mem} {args:List SV} {k k':SV→Mem→Prop}
  (hk:∀vs sv cm,vs.all (·.ro)=true→back vs n m k sv cm→back vs n m k' sv cm) (h:runNw gl pts G n m args k):runNw gl pts G n m args k':=by
 unfold runNw at h ⊢
 simp only[backK_iff]at h ⊢
 split at h
 ·exact h.elim
 ·rename_i vs0 h0
  try simp only[h0]
  split at h
  ·exact h.elim
  ·rename_i p cargs vs h1
   try simp only[h1]
   cases hb:Nat.blt (rid n 3) 4194304 && vs.all (·.ro)with
   | false=>rw[hb]at h;exact h.elim
   | true=>
    rw[hb]at h
    simp only[cond_true]at h ⊢
    rw[then_iff]at h ⊢
    simp only[Bool.and_eq_true]at hb
    exact ⟨h.1,hgood.mono (fun v m'=>hk vs v m' hb.2) h.2⟩
def mkNw (hP:P.follows .mixedOrders=true) (f:FuncId) {fn:Func} (hfn:P.funcs[f]? =some fn) (h1:(fn.name== "runtime.NumGoroutine")=false) (h2:fn.body.isNone=false)
  {Γ:Cx P} (gl:List Nat) (pts:List Pt) (G:G0) (hgood:Good G) (hG:∀args l K,KUp K→G args l K→∃U,execF Γ U fn 64 args (memL l) K):Ef P where
 f:=f
 run:=runNw gl pts G
 mono:=fun n m args k k' hk h=>runNw_map hgood (fun vs sv cm _=>back_mono hk) h
 live:=fun n m args k h=>(mkE hP f hfn h1 h2 gl pts G hgood hG).live n m args k (runNw_E h)
 sound:=fun β T m w0 w args vs n k hgb hH hd hf h=>runE_sound hP hfn h1 h2 hG β T m w0 w args vs n k hgb hH hd hf (runNw_E h)
 nw:=true
 keeps:=fun _ n m args k h=>runNw_map hgood (fun vs sv cm hr hb=>back_keeps hr hb) h
def mkR (hP:P.follows .mixedOrders=true) (f:FuncId) {fn:Func} (hfn:P.funcs[f]? =some fn) (h1:(fn.name== "runtime.NumGoroutine")=false) (h2:fn.body.isNone=false)
  {Γ:Cx P} (gl:List Nat) (pts:List Pt) (R:R0) (hR:∀args l p v,R args l=some (p,v)→p.ok→∃U,execF Γ U fn 64 args (memL l) fun v' _=>v'=v):Rd P where
 f:=f
 run:=runR gl pts R
 sound:=fun β T m w0 w args vs p sv hgb hH hd h hp=>by
  unfold runR at h
  split at h
  ·simp at h
  ·rename_i vs0 hg
   split at h
   ·simp at h
   ·rename_i p1 cargs vws hc
    cases hb:vws.all (·.ro)with
    | false=>rw[hb]at h;simp at h
    | true=>
     rw[hb]at h
     simp only[cond_true]at h
     split at h
     ·rename_i q v hR1
      cases hpu:v.pure with
      | false=>rw[hpu]at h;simp at h
      | true=>
       rw[hpu]at h
       simp only[cond_true,Option.some.injEq,Prod.mk.injEq]at h
       obtain ⟨rfl,rfl⟩:=h
       obtain ⟨hp1,hp2⟩:=Ob.and_ok hp
       have hI0:=globs_sound hgb hH VI.nil nofun hg
       obtain ⟨hI,hdc,_⟩:=canonL_sound hH hI0 hc hp1 hd
       have hcg:∀g,cenv β vws (gid g)=some (g,0):=fun g=>by unfold cenv gid;rw[if_pos (by omega)];simp
       obtain ⟨U,hU⟩:=hR _ _ _ _ hR1 hp2
       have:=execF_sound hP hfn (hI.holds hH) hdc hcg hI.fresh hU
       unfold CallsX
       rw[callFunc_enter hfn h1 h2]
       refine this.mono ?_
       rintro e w' ⟨β1,u,sv',cm,hle,rfl,k2,k3,rfl⟩
       refine ⟨u,rfl,pure_den _ _ hpu k2,k3.fr.mono ?_⟩
       rintro b i ⟨z,hz,hro,_⟩
       rw[List.all_eq_true]at hb
       rw[hb z hz]at hro
       cases hro
     ·simp at h
def mkQ (hP:P.follows .mixedOrders=true) (f:FuncId) {fn:Func} (hfn:P.funcs[f]? =some fn) (h1:(fn.name== "runtime.NumGoroutine")=false) (h2:fn.body.isNone=false)
  {Γ:Cx P} (gl:List Nat) (pts:List Pt) (R:R0) (hR:∀args l p v,R args l=some (p,v)→p.ok→∃U,execF Γ U fn 64 args (memL l) fun v' _=>∀β u,Den β v' u→Den β v u):Rd P where
 f:=f
 run:=runR gl pts R
 sound:=fun β T m w0 w args vs p sv hgb hH hd h hp=>by
  unfold runR at h
  split at h
  ·simp at h
  ·rename_i vs0 hg
   split at h
   ·simp at h
   ·rename_i p1 cargs vws hc
    cases hb:vws.all (·.ro)with
    | false=>rw[hb]at h;simp at h
    | true=>
     rw[hb]at h
     simp only[cond_true]at h
     split at h
     ·rename_i q v hR1
      cases hpu:v.pure with
      | false=>rw[hpu]at h;simp at h
      | true=>
       rw[hpu]at h
       simp only[cond_true,Option.some.injEq,Prod.mk.injEq]at h
       obtain ⟨rfl,rfl⟩:=h
       obtain ⟨hp1,hp2⟩:=Ob.and_ok hp
       have hI0:=globs_sound hgb hH VI.nil nofun hg
       obtain ⟨hI,hdc,_⟩:=canonL_sound hH hI0 hc hp1 hd
       have hcg:∀g,cenv β vws (gid g)=some (g,0):=fun g=>by unfold cenv gid;rw[if_pos (by omega)];simp
       obtain ⟨U,hU⟩:=hR _ _ _ _ hR1 hp2
       have:=execF_sound hP hfn (hI.holds hH) hdc hcg hI.fresh hU
       unfold CallsX
       rw[callFunc_enter hfn h1 h2]
       refine this.mono ?_
       rintro e w' ⟨β1,u,sv',cm,hle,rfl,k2,k3,k4⟩
       refine ⟨u,rfl,pure_den _ _ hpu (k4 _ _ k2),k3.fr.mono ?_⟩
       rintro b i ⟨z,hz,hro,_⟩
       rw[List.all_eq_true]at hb
       rw[hb z hz]at hro
       cases hro
     ·simp at h
end
end Go.Sx
namespace Go.Sx
open Go Go.Proofs
theorem mixed:Tryz.prog.follows .mixedOrders=true:=by kernel_rfl
def cx0:Cx Tryz.prog:= { rds:= [],efs:= [],eqs:= [] }
def u0:Nat→Lp:=fun _=> .un 0
def u9:Nat→Lp:=fun _=> .un 9
set_option maxRecDepth 100000
theorem vc_rotl (x n:Int) (K:SV→Mem→Prop):(execF cx0 u0 Tryz.f170 64 [.int .u32 (.sym x),.int .i64 (.sym n)] (memL []) K)=(∀c,c=IntKind.wrap IntKind.u64 n→∀a,a=band .u64 c (31:Int)→(0≤a∧∀d,d=shlv .u32 x
 (Int.toNat a)→∀b,b=IntKind.wrap IntKind.u64 (32-a)→(0≤b∧∀e,e=shrv .u32 x (Int.toNat b)→∀f,f=bor .u32 d e→K (.int .u32 (.sym f)) Tr.leaf))):=by kernel_rfl
theorem vc_be32 (xs:List Int) (l c:Nat) (v:Int) (K:SV→Mem→Prop):(execF cx0 u0 Tryz.f169 64 [.slice 1 (.lit 0) (.sym l) (.sym c),.int .u32 (.sym v)] (memL [(1,⟨false,.ints .u8 xs⟩)]) K)=(((0:Int)≤(3:Int)∧3<((l:
 Nat):Int))∧(4≤xs.length∧∀i:Int,i=List.getD xs 3 (0:Int)→∀e,e=shrv .u32 v 24→∀a,a=IntKind.wrap IntKind.u8 e→((0:Int)≤(0:Int)∧0<((l:Nat):Int))∧(0<xs.length∧∀f,f=shrv .u32 v 16→∀b,b=
 IntKind.wrap IntKind.u8 f→((0:Int)≤(1:Int)∧1<((l:Nat):Int))∧(1<List.length (List.set xs (0:Nat) a)∧∀g,g=shrv .u32 v 8→∀d,d=IntKind.wrap IntKind.u8 g→((0:Int)≤(2:Int)∧2<((l:Nat):Int))∧(2 <
 List.length (List.set (List.set xs (0:Nat) a) (1:Nat) b)∧∀h,h=IntKind.wrap IntKind.u8 v→((0:Int)≤(3:Int)∧3<((l:Nat):Int))∧3<List.length (List.set (List.set (List.set xs (0:Nat) a) (1:Nat) b) (2:Nat) d)∧
 K (.tup []) (memL [(1,⟨false,.ints .u8 (List.set (List.set (List.set (List.set xs (0:Nat) a) (1:Nat) b) (2:Nat) d) (3:Nat) h)⟩)])))))):=by kernel_rfl
theorem vc_be64 (xs:List Int) (l c:Nat) (v:Int) (K:SV→Mem→Prop):(execF cx0 u9 Tryz.f168 64 [.slice 1 (.lit 0) (.sym l) (.sym c),.int .u64 (.sym v)] (memL [(1,⟨false,.ints .u8 xs⟩)]) K)=(((0:Int)≤(7:Int)∧7<((l:
 Nat):Int))∧(8≤xs.length∧∀s:Int,s=List.getD xs 7 (0:Int)→∀i,i=shrv .u64 v 56→∀a,a=IntKind.wrap IntKind.u8 i→((0:Int)≤(0:Int)∧0<((l:Nat):Int))∧(0<xs.length∧∀j,j=shrv .u64 v 48→∀b,b=
 IntKind.wrap IntKind.u8 j→((0:Int)≤(1:Int)∧1<((l:Nat):Int))∧(1<List.length (List.set xs (0:Nat) a)∧∀k,k=shrv .u64 v 40→∀d,d=IntKind.wrap IntKind.u8 k→((0:Int)≤(2:Int)∧2<((l:Nat):Int))∧(2
 < List.length (List.set (List.set xs (0:Nat) a) (1:Nat) b)∧∀m,m=shrv .u64 v 32→∀e,e=IntKind.wrap IntKind.u8 m→((0:Int)≤(3:Int)∧3<((l:Nat):Int))∧(3<List.length (List.set (List.set (List.set xs (0:Nat)
 a) (1:Nat) b) (2:Nat) d)∧∀n,n=shrv .u64 v 24→∀f,f=IntKind.wrap IntKind.u8 n→((0:Int)≤(4:Int)∧4<((l:Nat):Int))∧(4<List.length (List.set (List.set (List.set (List.set xs (0:Nat) a) (1:Nat) b) (2:Nat)
 d) (3:Nat) e)∧∀o,o=shrv .u64 v 16→∀g,g=IntKind.wrap IntKind.u8 o→((0:Int)≤(5:Int)∧5<((l:Nat):Int))∧(5<List.length (List.set (List.set (List.set (List.set (List.set xs (0:Nat) a) (1:Nat) b) (2:Nat) d)
 (3:Nat) e) (4:Nat) f)∧∀p,p=shrv .u64 v 8→∀h,h=IntKind.wrap IntKind.u8 p→((0:Int)≤(6:Int)∧6<((l:Nat):Int))∧(6<List.length (List.set (List.set (List.set (List.set (List.set (List.set xs (0:Nat) a) (1:
 Nat) b) (2:Nat) d) (3:Nat) e) (4:Nat) f) (5:Nat) g)∧∀q,q=shrv .u64 v 0→∀r,r=IntKind.wrap IntKind.u8 q→((0:Int)≤(7:Int)∧7<((l:Nat):Int))∧7<List.length (List.set (List.set (List.set (List.set (List.set
 (List.set (List.set xs (0:Nat) a) (1:Nat) b) (2:Nat) d) (3:Nat) e) (4:Nat) f) (5:Nat) g) (6:Nat) h)∧K (.tup []) (memL [(1,⟨false,.ints .u8 (List.set (List.set (List.set (List.set (List.set (List.set (List.set (List.set xs
 (0:Nat) a) (1:Nat) b) (2:Nat) d) (3:Nat) e) (4:Nat) f) (5:Nat) g) (6:Nat) h) (7:Nat) r)⟩)])))))))))):=by kernel_rfl
theorem vc_bs (K:SV→Mem→Prop):(execF cx0 u0 Tryz.f144 64 [.ptr 1 (.lit 0)] (memL [(1,⟨true,.cells [.int .u32 (.sym 0)]⟩)]) K)=K (.int .i64 (.lit 64)) (memL [(1,⟨true,.cells [.int .u32 (.sym 0)]⟩)]):=by kernel_rfl
theorem vc_err (xs:List Int) (K:SV→Mem→Prop):(execF cx0 u0 Tryz.f119 64 [.val (.string (bytesOf xs))] (memL []) K)=K (.iface 155 (.ptr 537 (.lit 0))) (memL [(537,⟨false,.cells [.val (.string (bytesOf xs))]⟩)]):=by kernel_rfl
theorem bor_comm (k:IntKind) (x y:Int):bor k x y=bor k y x:=by unfold bor;rw[BitVec.or_comm]
def rot (x:Int) (k:Nat):Int:=bor .u32 (shrv .u32 x k) (shlv .u32 x (32-k))
theorem wrap64 {x:Int} (h1: -9223372036854775808≤x) (h2:x<9223372036854775808):IntKind.i64.wrap x=x:=wrap_i64 h1 h2
theorem rotl_amount:∀k:Fin 31,band .u64 (IntKind.u64.wrap (-((k.val:Int)+1))) 31=31-(k.val:Int):=by decide
def rRotl:R0:=fun args l=>
 match args,l with
 | [.int .u32 (.sym x),.int .i64 (.sym n)],[]=>some (some (-32<n∧n<0),.int .u32 (.sym (rot x (-n).toNat)))
 | _,_=>none
theorem wrapu64 {x:Int} (h1:0≤x) (h2:x<18446744073709551616):IntKind.u64.wrap x=x:=by
 unfold IntKind.wrap
 simp[IntKind.bits,IntKind.signed]
 omega
theorem rotl_ok (args:List SV) (l:List (Nat×Reg)) (p:Ob) (v:SV) (h:rRotl args l=some (p,v)) (hp:p.ok):∃U,execF cx0 U Tryz.f170 64 args (memL l) fun v' _=>v'=v:=by
 refine ⟨u0,?_⟩
 unfold rRotl at h
 split at h
 ·rename_i x n
  simp only[Option.some.injEq,Prod.mk.injEq]at h
  obtain ⟨rfl,rfl⟩:=h
  obtain ⟨h1,h2⟩: -32<n∧n<0:=hp
  rw[vc_rotl]
  have ha:=rotl_amount ⟨(-n-1).toNat,by omega⟩
  have hn: -((((-n-1).toNat:Nat):Int)+1)=n:=by omega
  simp only[hn]at ha
  rintro x0 rfl x1 rfl
  rw[ha]
  refine ⟨by omega,?_⟩
  rintro x2 rfl x3 rfl
  rw[wrapu64 (by omega) (by omega)]
  refine ⟨by omega,?_⟩
  rintro x4 rfl x5 rfl
  unfold rot
  rw[bor_comm]
  congr 4<;>omega
 ·cases h
def cRotl:Rd Tryz.prog:=mkR mixed 170 Tryz.func170 (by decide) (by kernel_rfl) [] [.num,.num] rRotl rotl_ok
def wr4 (xs:List Int) (v:Int):List Int:=
 (((xs.set 0 (IntKind.u8.wrap (shrv .u32 v 24))).set 1 (IntKind.u8.wrap (shrv .u32 v 16))).set 2 (IntKind.u8.wrap (shrv .u32 v 8))).set 3 (IntKind.u8.wrap v)
def gBe32:G0:=fun args l K=>
 match args,l with
 | [.slice 1 (.lit 0) (.sym n) (.sym _),.int .u32 (.sym v)],[(1,⟨false,.ints .u8 xs⟩)]=>(4≤n∧4≤xs.length)∧∀ys,ys=wr4 xs v→K (.tup []) (memL [(1,⟨false,.ints .u8 ys⟩)])
 | _,_=>False
theorem be32_good:Good gBe32:=by
 constructor
 ·intro args l K K' hk h
  unfold gBe32 at h ⊢
  split at h
  ·exact ⟨h.1,fun ys hy=>hk _ _ (h.2 ys hy)⟩
  ·exact h.elim
 ·intro args l K h
  unfold gBe32 at h
  split at h
  ·exact ⟨_,_,h.2 _ rfl⟩
  ·exact h.elim
theorem be32_ok (args:List SV) (l:List (Nat×Reg)) (K:SV→Mem→Prop) (_:KUp K) (h:gBe32 args l K):∃U,execF cx0 U Tryz.f169 64 args (memL l) K:=by
 refine ⟨u0,?_⟩
 unfold gBe32 at h
 split at h
 ·obtain ⟨⟨h1,h2⟩,h3⟩:=h
  rw[vc_be32]
  refine ⟨by omega,by omega,?_⟩
  rintro x0 rfl x1 rfl x2 rfl
  refine ⟨by omega,by omega,?_⟩
  rintro x3 rfl x4 rfl
  refine ⟨by omega,by simp;omega,?_⟩
  rintro x5 rfl x6 rfl
  refine ⟨by omega,by simp;omega,?_⟩
  rintro x7 rfl
  refine ⟨by omega,by simp;omega,?_⟩
  exact h3 _ rfl
 ·exact h.elim
def cBe32:Ef Tryz.prog:=mkE mixed 169 Tryz.func169 (by decide) (by kernel_rfl) [] [.sl 1 false,.num] gBe32 be32_good be32_ok
def b64 (v:Int) (k:Nat):Int:=IntKind.u8.wrap (shrv .u64 v k)
def wr8 (xs:List Int) (v:Int):List Int:=
 (((((((xs.set 0 (b64 v 56)).set 1 (b64 v 48)).set 2 (b64 v 40)).set 3 (b64 v 32)).set 4 (b64 v 24)).set 5 (b64 v 16)).set 6 (b64 v 8)).set 7 (b64 v 0)
def gBe64:G0:=fun args l K=>
 match args,l with
 | [.slice 1 (.lit 0) (.sym n) (.sym _),.int .u64 (.sym v)],[(1,⟨false,.ints .u8 xs⟩)]=>(8≤n∧8≤xs.length)∧∀ys,ys=wr8 xs v→K (.tup []) (memL [(1,⟨false,.ints .u8 ys⟩)])
 | _,_=>False
theorem be64_good:Good gBe64:=by
 constructor
 ·intro args l K K' hk h
  unfold gBe64 at h ⊢
  split at h
  ·exact ⟨h.1,fun ys hy=>hk _ _ (h.2 ys hy)⟩
  ·exact h.elim
 ·intro args l K h
  unfold gBe64 at h
  split at h
  ·exact ⟨_,_,h.2 _ rfl⟩
  ·exact h.elim
theorem be64_ok (args:List SV) (l:List (Nat×Reg)) (K:SV→Mem→Prop) (_:KUp K) (h:gBe64 args l K):∃U,execF cx0 U Tryz.f168 64 args (memL l) K:=by
 refine ⟨u9,?_⟩
 unfold gBe64 at h
 split at h
 ·obtain ⟨⟨h1,h2⟩,h3⟩:=h
  rw[vc_be64]
  refine ⟨by omega,by omega,?_⟩
  rintro x0 rfl x1 rfl x2 rfl
  refine ⟨by omega,by omega,?_⟩
  rintro x1 rfl x2 rfl
  refine ⟨by omega,by simp;omega,?_⟩
  rintro x1 rfl x2 rfl
  refine ⟨by omega,by simp;omega,?_⟩
  rintro x1 rfl x2 rfl
  refine ⟨by omega,by simp;omega,?_⟩
  rintro x1 rfl x2 rfl
  refine ⟨by omega,by simp;omega,?_⟩
  rintro x1 rfl x2 rfl
  refine ⟨by omega,by simp;omega,?_⟩
  rintro x1 rfl x2 rfl
  refine ⟨by omega,by simp;omega,?_⟩
  rintro x1 rfl x2 rfl
  refine ⟨by omega,by simp;omega,?_⟩
  exact h3 _ rfl
 ·exact h.elim
def cBe64:Ef Tryz.prog:=mkE mixed 168 Tryz.func168 (by decide) (by kernel_rfl) [] [.sl 1 false,.num] gBe64 be64_good be64_ok
end Go.Sx
namespace Go.Sx
open Go
theorem memL_more {l k:List (Nat×Reg)} (ks:List Nat) (h:(l++k).map (·.1)=ks) (d:ks.Nodup∧ks.all (fun q=>Nat.blt q 4194304)=true):MemLe (memL l) (memL (l++k)):=by
 refine memL_app k l (by rw[h];exact d.1) fun x hx=> ?_
 have:x.1∈ks:=by rw[←h];exact List.mem_map.2 ⟨x,by simp[hx],rfl⟩
 exact List.all_eq_true.1 d.2 _ this
theorem Tr.get_set_self {α:Type} {t:Tr α} {n:Nat} {a:α} (hn:Nat.blt n 4194304=true):(t.set n a).get n=some a:=by
 unfold Tr.set
 rw[hn]
 simp only[cond_true]
 have:=blt_iff.1 hn
 rw[Tr.get_put _ _ _ _ _ (by omega),if_pos rfl]
theorem fold_set_other {α:Type}:∀(l:List (Nat×α)) (t:Tr α) (i:Nat),(∀x∈l,Nat.blt x.1 4194304=true∧i≠x.1)→(l.foldl (fun t x=>Tr.set t x.1 x.2) t).get i=t.get i
 | [],_,_,_=>rfl
 | x::l,t,i,h=>by
  rw[List.foldl_cons,fold_set_other l _ i (fun y hy=>h y (by simp[hy])),Tr.get_set_ne (h x (by simp)).1 (h x (by simp)).2]
theorem fold_set_mem {α:Type}:∀(l:List (Nat×α)) (t:Tr α) (x:Nat×α),x∈l→(l.map (·.1)).Nodup→(∀x∈l,Nat.blt x.1 4194304=true)→(l.foldl (fun t x=>Tr.set t x.1 x.2) t).get x.1=some x.2
 | [],_,_,h,_,_=>nomatch h
 | y::l,t,x,h,hd,hb=>by
  rw[List.foldl_cons]
  rw[List.map_cons,List.nodup_cons]at hd
  rcases List.mem_cons.1 h with rfl | h
  ·rw[fold_set_other l _ _ (fun z hz=>⟨hb z (by simp[hz]),fun e=>hd.1 (by rw[e];exact List.mem_map.2 ⟨z,hz,rfl⟩)⟩),Tr.get_set_self (hb _ (by simp))]
  ·exact fold_set_mem l _ x h hd.2 fun z hz=>hb z (by simp[hz])
theorem memL_sub {l l':List (Nat×Reg)} (ks:List Nat) (h:l'.map (·.1)=ks) (d:ks.Nodup∧ks.all (fun q=>Nat.blt q 4194304)=true) (hs:∀x∈l,x∈l'):MemLe (memL l) (memL l'):=by
 intro r g hg
 rcases get_fold_set _ _ hg with hg | hg
 ·refine fold_set_mem l' _ (r,g) (hs _ hg) (by rw[h];exact d.1) fun x hx=> ?_
  have:x.1∈ks:=by rw[←h];exact List.mem_map.2 ⟨x,hx,rfl⟩
  exact List.all_eq_true.1 d.2 _ this
 ·rw[Tr.get_leaf]at hg;cases hg
theorem nle {a b:Nat} (h:a≤b):Nat.le a b:=h
end Go.Sx
namespace Go.Sx
open Go Go.Proofs
set_option maxRecDepth 100000
def sumLo (x y c:Int):Int:=(x+y+c)%18446744073709551616
def sumHi (x y c:Int):Int:=(x+y+c) / 18446744073709551616
def difLo (x y c:Int):Int:=(x-y-c)%18446744073709551616
def difHi (x y c:Int):Int:=if x<y+c then 1 else 0
def Wd (x:Int):Prop:=0≤x∧x<18446744073709551616
def rAdd (args:List SV):Option (Ob×SV):=
 match args with
 | [.int .u64 x,.int .u64 y,.int .u64 c]=>some (some (Wd x.val∧Wd y.val∧0≤c.val∧c.val≤1),.tup [.int .u64 (.sym (sumLo x.val y.val c.val)),.int .u64 (.sym (sumHi x.val y.val c.val))])
 | _=>none
def rSub (args:List SV):Option (Ob×SV):=
 match args with
 | [.int .u64 x,.int .u64 y,.int .u64 c]=>some (some (Wd x.val∧Wd y.val∧0≤c.val∧c.val≤1),.tup [.int .u64 (.sym (difLo x.val y.val c.val)),.int .u64 (.sym (difHi x.val y.val c.val))])
 | _=>none
theorem run_extern {P:Program} {f:FuncId} {fn:Func} {e:Array Value→Sem Value} (hfn:P.funcs[f]? =some fn) (h1:(fn.name== "runtime.NumGoroutine")=false) (h2:fn.body.isNone=true)
  (h3:(Extern.findNext fn).isNone=true) (h4:Extern.find fn=some e) (vs:Array Value) (w w':World) (v:Value) (he:(e vs).run P w= .ok v w'):(callFunc f vs).run P w= .ok (.value v) w':=by
 unfold callFunc
 simp only[Sem.run_bind]
 have:(program:Sem Program).run P w= .ok P w:=rfl
 have hn:Extern.findNext fn=none:=by simpa using h3
 simp only[this,Result.andThen_ok,hfn,h1,h2,hn,h4]
 have hm:(mark (.extern f)).run P w= .ok () w:=rfl
 simp only[Sem.run_bind,hm,Result.andThen_ok,he,Sem.run_pure,Bool.false_eq_true,if_false,if_true]
theorem run_three {P:Program} (n:String) (x y c:Int) (h0:0≤c) (h1:c≤1) (w:World):(Extern.MathBitsCarry.three n #[.int .u64 x,.int .u64 y,.int .u64 c]).run P w= .ok (x.toNat,y.toNat,c.toNat) w:=by
 rcases (show c=0∨c=1 by omega)with rfl | rfl<;>rfl
theorem run_add (x y c:Int) (hx:Wd x) (hy:Wd y) (h0:0≤c) (h1:c≤1) (w:World):
  ((Extern.MathBitsCarry.rows.getD 0 ("",fun _=>pure undef)).2 #[.int .u64 x,.int .u64 y,.int .u64 c]).run Tryz.prog w= .ok (.tuple #[.int .u64 (sumLo x y c),.int .u64 (sumHi x y c)]) w:=by
 have h3:=run_three (P:=Tryz.prog) "Add64" x y c h0 h1 w
 simp only[Extern.MathBitsCarry.rows,List.getD_cons_zero,Sem.run_bind,h3,Sem.run_pure,Result.andThen_ok,Extern.MathBitsCarry.pair]
 obtain ⟨x,rfl⟩:=Int.eq_ofNat_of_zero_le hx.1
 obtain ⟨y,rfl⟩:=Int.eq_ofNat_of_zero_le hy.1
 obtain ⟨c,rfl⟩:=Int.eq_ofNat_of_zero_le h0
 rfl
theorem run_sub (x y c:Int) (hx:Wd x) (hy:Wd y) (h0:0≤c) (h1:c≤1) (w:World):
  ((Extern.MathBitsCarry.rows.getD 1 ("",fun _=>pure undef)).2 #[.int .u64 x,.int .u64 y,.int .u64 c]).run Tryz.prog w= .ok (.tuple #[.int .u64 (difLo x y c),.int .u64 (difHi x y c)]) w:=by
 have hx':=hx
 have hy':=hy
 unfold Wd at hx' hy'
 have h3:=run_three (P:=Tryz.prog) "Sub64" x y c h0 h1 w
 simp only[Extern.MathBitsCarry.rows,List.getD_cons_succ,List.getD_cons_zero,Sem.run_bind,h3,Sem.run_pure,Result.andThen_ok,Extern.MathBitsCarry.pair]
 obtain ⟨x,rfl⟩:=Int.eq_ofNat_of_zero_le hx.1
 obtain ⟨y,rfl⟩:=Int.eq_ofNat_of_zero_le hy.1
 obtain ⟨c,rfl⟩:=Int.eq_ofNat_of_zero_le h0
 simp only[Int.toNat_natCast]
 have e1:difLo (x:Int) y c=Int.ofNat ((x+Extern.MathBitsCarry.m64-y-c)%Extern.MathBitsCarry.m64):=by
  unfold difLo Extern.MathBitsCarry.m64
  simp only[Int.ofNat_eq_natCast]
  omega
 have e2:difHi (x:Int) y c=Int.ofNat (if x<y+c then 1 else 0):=by
  unfold difHi
  split<;>split<;>first | rfl | omega
 rw[e1,e2]
theorem d3_inv {β:Env} {args:List SV} {vs:List Value} {a b c:SV} (h:DenL β [a,b,c] vs):∃u v w,vs= [u,v,w]∧Den β a u∧Den β b v∧Den β c w:=by
 obtain ⟨u,l,h1,⟨v,l2,h2,⟨w,l3,h3,h4,rfl⟩,rfl⟩,rfl⟩:=h
 subst h4
 exact ⟨u,v,w,rfl,h1,h2,h3⟩
def cAdd:Rd Tryz.prog where
 f:=122
 run:=fun _ args=>rAdd args
 sound:=fun β T m w0 w args vs p sv _ hH hd hr hp=>by
  unfold rAdd at hr
  split at hr
  ·rename_i x y c
   obtain ⟨u,v,z,rfl,h1,h2,h3⟩:=d3_inv (args:= []) hd
   simp only[Den]at h1 h2 h3
   subst h1;subst h2;subst h3
   simp only[Option.some.injEq,Prod.mk.injEq]at hr
   obtain ⟨rfl,rfl⟩:=hr
   obtain ⟨q1,q2,q3,q4⟩:=hp
   unfold CallsX
   rw[run_extern (e:=(Extern.MathBitsCarry.rows.getD 0 ("",fun _=>pure undef)).2) Tryz.func122 (by kernel_rfl) (by kernel_rfl) (by kernel_rfl) (by kernel_rfl) _ _ _ _ (run_add _ _ _ q1 q2 q3 q4 w)]
   exact ⟨_,rfl,by simp[Den,DenL,A.val],⟨rfl,rfl,rfl,Nat.le_refl _,fun _ _=>ObjFr.refl _ _⟩⟩
  ·cases hr
def cSub:Rd Tryz.prog where
 f:=124
 run:=fun _ args=>rSub args
 sound:=fun β T m w0 w args vs p sv _ hH hd hr hp=>by
  unfold rSub at hr
  split at hr
  ·rename_i x y c
   obtain ⟨u,v,z,rfl,h1,h2,h3⟩:=d3_inv (args:= []) hd
   simp only[Den]at h1 h2 h3
   subst h1;subst h2;subst h3
   simp only[Option.some.injEq,Prod.mk.injEq]at hr
   obtain ⟨rfl,rfl⟩:=hr
   obtain ⟨q1,q2,q3,q4⟩:=hp
   unfold CallsX
   rw[run_extern (e:=(Extern.MathBitsCarry.rows.getD 1 ("",fun _=>pure undef)).2) Tryz.func124 (by kernel_rfl) (by kernel_rfl) (by kernel_rfl) (by kernel_rfl) _ _ _ _ (run_sub _ _ _ q1 q2 q3 q4 w)]
   exact ⟨_,rfl,by simp[Den,DenL,A.val],⟨rfl,rfl,rfl,Nat.le_refl _,fun _ _=>ObjFr.refl _ _⟩⟩
  ·cases hr
theorem wu64 (x:Int):IntKind.u64.wrap x=x%18446744073709551616:=by
 unfold IntKind.wrap
 simp[IntKind.bits,IntKind.signed]
theorem shr_eq {k:IntKind} {x:Int} {n:Nat} (h:0≤x):shrv k x n=x / 2 ^ (min n k.bits):=by
 unfold shrv
 exact Int.fdiv_eq_ediv_of_nonneg _ (Int.le_of_lt (Int.pow_pos (by omega)))
theorem shr64 {x:Int} {n:Nat} (h:0≤x) (hn:n≤64):shrv .u64 x n=x / 2 ^ n:=by
 rw[shr_eq h,show min n IntKind.u64.bits=n by simp[IntKind.bits];omega]
theorem band_mask {x:Int} {n:Nat} (h:Wd x) (hn:n≤64):band .u64 x (2 ^ n-1)=x%2 ^ n:=by
 obtain ⟨m,rfl⟩:=Int.eq_ofNat_of_zero_le h.1
 have hm:m<18446744073709551616:=by have:=h.2;omega
 have hp:(1:Nat)≤2 ^ n:=Nat.one_le_two_pow
 have e0:(2:Int) ^ n-1=((2 ^ n-1:Nat):Int):=by
  rw[Int.natCast_sub hp]
  simp
 have e1:(BitVec.ofInt IntKind.u64.bits (m:Int)).toNat=m:=by
  simp only[IntKind.bits,BitVec.toNat_ofInt]
  omega
 have hlt:2 ^ n-1<18446744073709551616:=by
  have:2 ^ n≤2 ^ 64:=Nat.pow_le_pow_right (by omega) hn
  omega
 have e2:(BitVec.ofInt IntKind.u64.bits ((2 ^ n-1:Nat):Int)).toNat=2 ^ n-1:=by
  simp only[IntKind.bits,BitVec.toNat_ofInt]
  generalize 2 ^ n-1=k at *
  omega
 unfold band
 rw[e0,BitVec.toNat_and,e1,e2,Nat.and_two_pow_sub_one_eq_mod,wu64]
 have:m%2 ^ n≤m:=Nat.mod_le _ _
 rw[Int.emod_eq_of_lt (by omega) (by omega)]
 simp
def mulLo (x y:Int):Int:=x*y%18446744073709551616
def mulHi (x y:Int):Int:=x*y / 18446744073709551616
theorem vc_mul64 (x y:Int) (K:SV→Mem→Prop):(execF cx0 u0 Tryz.f121 64 [.int .u64 (.sym x),.int .u64 (.sym y)] (memL []) K)=(∀a,a=band .u64 x (4294967295:Int)→∀b,b=shrv .u64 x 32→∀c,c=band .u64 y (4294967295:
 Int)→∀d,d=shrv .u64 y 32→∀f,f=IntKind.wrap IntKind.u64 (a*c)→∀g,g=IntKind.wrap IntKind.u64 (b*c)→∀h,h=shrv .u64 f 32→∀e,e=IntKind.wrap IntKind.u64 (g+h)→∀i,i=band .u64 e (4294967295:Int)→∀j,j
 =shrv .u64 e 32→∀k,k=IntKind.wrap IntKind.u64 (a*d)→∀l,l=IntKind.wrap IntKind.u64 (i+k)→∀m,m=IntKind.wrap IntKind.u64 (b*d)→∀n,n=IntKind.wrap IntKind.u64 (m+j)→∀o,o=shrv .u64 l 32→∀p,p=
 IntKind.wrap IntKind.u64 (n+o)→∀q,q=IntKind.wrap IntKind.u64 (x*y)→K (.tup [.int .u64 (.sym p),.int .u64 (.sym q)]) Tr.leaf):=by kernel_rfl
theorem mul_hi {x y:Int} (hx:Wd x) (hy:Wd y) {x0 x1 y0 y1:Int} (h0:x0=x%4294967296) (h1:x1=x / 4294967296) (g0:y0=y%4294967296) (g1:y1=y / 4294967296):
  x*y=x1*y1*18446744073709551616+(x1*y0+x0*y1)*4294967296+x0*y0∧(0≤x0*y0∧x0*y0≤18446744065119617025)∧(0≤x1*y0∧x1*y0≤18446744065119617025)∧(0≤x0*y1∧x0*y1≤18446744065119617025)∧(0≤x1*y1∧x1*y1≤18446744065119617025):=by
 obtain ⟨a1,a2⟩:=hx
 obtain ⟨b1,b2⟩:=hy
 have ex:x=x1*4294967296+x0:=by omega
 have ey:y=y1*4294967296+y0:=by omega
 have bd:∀u v:Int,0≤u→u<4294967296→0≤v→v<4294967296→0≤u*v∧u*v≤18446744065119617025:=fun u v q1 q2 q3 q4=>
  ⟨Int.mul_nonneg q1 q3,Int.le_trans (Int.mul_le_mul (show u≤4294967295 by omega) (show v≤4294967295 by omega) q3 (by omega)) (by decide)⟩
 refine ⟨?_,bd _ _ (by omega) (by omega) (by omega) (by omega),bd _ _ (by omega) (by omega) (by omega) (by omega),bd _ _ (by omega) (by omega) (by omega) (by omega),bd _ _ (by omega) (by omega) (by omega) (by omega)⟩
 rw[ex,ey]
 simp only[Int.add_mul,Int.mul_add]
 have e1:x1*4294967296*(y1*4294967296)=x1*y1*18446744073709551616:=by rw[Int.mul_assoc,Int.mul_left_comm 4294967296 y1 4294967296,←Int.mul_assoc];rfl
 have e2:x1*4294967296*y0=x1*y0*4294967296:=by rw[Int.mul_right_comm]
 have e3:x0*(y1*4294967296)=x0*y1*4294967296:=by rw[Int.mul_assoc]
 rw[e1,e2,e3]
 omega
def rMul64:R0:=fun args l=>
 match args,l with
 | [.int .u64 (.sym x),.int .u64 (.sym y)],[]=>some (some (Wd x∧Wd y),.tup [.int .u64 (.sym (mulHi x y)),.int .u64 (.sym (mulLo x y))])
 | _,_=>none
theorem mul64_ok (args:List SV) (l:List (Nat×Reg)) (p:Ob) (v:SV) (h:rMul64 args l=some (p,v)) (hp:p.ok):∃U,execF cx0 U Tryz.f121 64 args (memL l) fun v' _=>v'=v:=by
 refine ⟨u0,?_⟩
 unfold rMul64 at h
 split at h
 ·rename_i x y
  simp only[Option.some.injEq,Prod.mk.injEq]at h
  obtain ⟨rfl,rfl⟩:=h
  obtain ⟨hx,hy⟩:Wd x∧Wd y:=hp
  rw[vc_mul64]
  have hx':=hx
  have hy':=hy
  obtain ⟨a1,a2⟩:=hx'
  obtain ⟨b1,b2⟩:=hy'
  intro x0 h0 x1 h1 y0 g0 y1 g1
  rw[show (4294967295:Int)=2 ^ 32-1 from rfl,band_mask hx (by omega)]at h0
  rw[show (4294967295:Int)=2 ^ 32-1 from rfl,band_mask hy (by omega)]at g0
  rw[shr64 a1 (by omega)]at h1
  rw[shr64 b1 (by omega)]at g1
  obtain ⟨e,⟨p1,p2⟩,⟨q1,q2⟩,⟨r1,r2⟩,s1,s2⟩:=mul_hi hx hy h0 h1 g0 g1
  intro x4 h4 x5 h5 x6 h6 x7 h7 x8 h8 x9 h9 x10 h10 x11 h11 x12 h12 x13 h13 x14 h14 x15 h15 x16 h16
  rw[wu64]at h4 h5 h7 h10 h11 h12 h13 h15 h16
  rw[shr64 (by omega) (by omega)]at h6
  have w7:Wd x7:=by constructor<;>omega
  rw[show (4294967295:Int)=2 ^ 32-1 from rfl,band_mask w7 (by omega)]at h8
  rw[shr64 w7.1 (by omega)]at h9
  rw[shr64 (by omega) (by omega)]at h14
  have f15:x15=mulHi x y:=by unfold mulHi;rw[e];omega
  have f16:x16=mulLo x y:=by unfold mulLo;exact h16
  rw[f15,f16]
 ·cases h
def cMul64:Rd Tryz.prog:=mkR mixed 121 Tryz.func121 (by decide) (by kernel_rfl) [] [.num,.num] rMul64 mul64_ok
end Go.Sx
namespace Go.Sx
open Go
def qN:Nat:=21888242871839275222246405745257275088696311157297823662689037894645226208583
def lm (x i:Nat):Int:=((x / 18446744073709551616 ^ i%18446744073709551616:Nat):Int)
def V4 (a b c d:Int):Int:=a+b*18446744073709551616+c*340282366920938463463374607431768211456+d*6277101735386680763835789423207666416102355444464034512896
theorem lm_wd (x i:Nat):Wd (lm x i):=by
 unfold lm Wd
 have:=Nat.mod_lt (x / 18446744073709551616 ^ i) (show 0<18446744073709551616 by omega)
 omega
theorem lm_val {x:Nat} (h:x<2 ^ 256):V4 (lm x 0) (lm x 1) (lm x 2) (lm x 3)=(x:Int):=by
 unfold V4 lm
 simp only[Nat.pow_zero,Nat.div_one,Nat.pow_one,Nat.reducePow]
 omega
theorem lm_of {a b c d:Int} (ha:Wd a) (hb:Wd b) (hc:Wd c) (hd:Wd d) {x:Nat} (h:V4 a b c d=(x:Int)):a=lm x 0∧b=lm x 1∧c=lm x 2∧d=lm x 3:=by
 unfold V4 at h
 unfold Wd at *
 unfold lm
 simp only[Nat.pow_zero,Nat.div_one,Nat.pow_one,Nat.reducePow]
 omega
structure El (a b c d:Int) (x:Nat):Prop where
 a:a=lm x 0
 b:b=lm x 1
 c:c=lm x 2
 d:d=lm x 3
 lt:x<qN
theorem El.of {x:Nat} (h:x<qN):El (lm x 0) (lm x 1) (lm x 2) (lm x 3) x:=⟨rfl,rfl,rfl,rfl,h⟩
theorem El.wd {a b c d:Int} {x:Nat} (h:El a b c d x):Wd a∧Wd b∧Wd c∧Wd d:=by
 rw[h.a,h.b,h.c,h.d]
 exact ⟨lm_wd _ _,lm_wd _ _,lm_wd _ _,lm_wd _ _⟩
theorem El.val {a b c d:Int} {x:Nat} (h:El a b c d x):V4 a b c d=(x:Int):=by
 rw[h.a,h.b,h.c,h.d]
 exact lm_val (by have:=h.lt;unfold qN at this;omega)
def rInv:Nat:=20988524275117001072002809824448087578619730785600314334253784976379291040311
def mmul (x y:Nat):Nat:=x*y*rInv%qN
theorem mmul_lt (x y:Nat):mmul x y<qN:=Nat.mod_lt _ (by unfold qN;omega)
theorem rInv_eq:115792089237316195423570985008687907853269984665640564039457584007913129639936*rInv%qN=1:=by decide +kernel
theorem mmul_of {x y z k m:Nat} (hz:z<qN) (h:z*115792089237316195423570985008687907853269984665640564039457584007913129639936+k*qN=x*y+m*qN):z=mmul x y:=by
 have h1:z*115792089237316195423570985008687907853269984665640564039457584007913129639936%qN=x*y%qN:=by
  have:=congrArg (· % qN) h
  simpa [Nat.add_mul_mod_self_right]using this
 unfold mmul
 have h2:z*115792089237316195423570985008687907853269984665640564039457584007913129639936*rInv%qN=x*y*rInv%qN:=by
  rw[Nat.mul_mod,h1,←Nat.mul_mod]
 rw[←h2,Nat.mul_assoc,Nat.mul_mod,rInv_eq,Nat.mul_one,Nat.mod_mod,Nat.mod_eq_of_lt hz]
end Go.Sx
namespace Go.Sx
open Go Go.Proofs
set_option maxRecDepth 100000
theorem vc_stm (a0 a1 a2 a3:Int) (K:SV→Mem→Prop):(execF cx0 u0 Tryz.f123 64 [.ptr 1 (.lit 0)] (memL [(1,⟨true,.cells [.int .u64 (.sym a0),.int .u64 (.sym a1),.int .u64 (.sym a2),.int .u64 (.sym a3)]⟩)]) K)=((decide (a3 <
 3486998266802970665)=true→K (.bool (.lit true)) (memL [(1,⟨true,.cells [.int .u64 (.sym a0),.int .u64 (.sym a1),.int .u64 (.sym a2),.int .u64 (.sym a3)]⟩)]))∧(decide (a3<3486998266802970665)=false→((a3==
 3486998266802970665)=true→(decide (a2<13281191951274694749)=true→K (.bool (.lit true)) (memL [(1,⟨true,.cells [.int .u64 (.sym a0),.int .u64 (.sym a1),.int .u64 (.sym a2),.int .u64 (.sym a3)]⟩)]))∧(decide (a2 <
 13281191951274694749)=false→((a2==13281191951274694749)=true→(decide (a1<10917124144477883021)=true→K (.bool (.lit true)) (memL [(1,⟨true,.cells [.int .u64 (.sym a0),.int .u64 (.sym a1),.int .u64 (.sym a2),.int .u64
 (.sym a3)]⟩)]))∧(decide (a1<10917124144477883021)=false→((a1==10917124144477883021)=true→K (.bool (.sym (decide (a0<4332616871279656263)))) (memL [(1,⟨true,.cells [.int .u64 (.sym a0),.int .u64 (.sym a1),.int .u64 (.sym
 a2),.int .u64 (.sym a3)]⟩)]))∧((a1==10917124144477883021)=false→K (.bool (.lit false)) (memL [(1,⟨true,.cells [.int .u64 (.sym a0),.int .u64 (.sym a1),.int .u64 (.sym a2),.int .u64 (.sym a3)]⟩)]))))∧((a2==
 13281191951274694749)=false→K (.bool (.lit false)) (memL [(1,⟨true,.cells [.int .u64 (.sym a0),.int .u64 (.sym a1),.int .u64 (.sym a2),.int .u64 (.sym a3)]⟩)]))))∧((a3==3486998266802970665)=false→K (.bool (.lit false))
 (memL [(1,⟨true,.cells [.int .u64 (.sym a0),.int .u64 (.sym a1),.int .u64 (.sym a2),.int .u64 (.sym a3)]⟩)])))):=by kernel_rfl
theorem vc_rsq (K:SV→Mem→Prop):(execF cx0 u0 Tryz.f133 64 [] (memL []) K)=K (.agg [.int .u64 (.lit 17522657719365597833),.int .u64 (.lit 13107472804851548667),.int .u64 (.lit 5164255478447964150),.int .u64 (.lit
 493319470278259999)]) (memL [(513,⟨false,.cells [.int .u64 (.lit 17522657719365597833),.int .u64 (.lit 13107472804851548667),.int .u64 (.lit 5164255478447964150),.int .u64 (.lit 493319470278259999)]⟩)]):=by kernel_rfl
def rStm:R0:=fun args l=>
 match args,l with
 | [.ptr 1 (.lit 0)],[(1,⟨true,.cells [.int .u64 (.sym a),.int .u64 (.sym b),.int .u64 (.sym c),.int .u64 (.sym d)]⟩)]=>some (some (Wd a∧Wd b∧Wd c∧Wd d),.bool (.sym (decide (V4 a b c d<21888242871839275222246405745257275088696311157297823662689037894645226208583))))
 | _,_=>none
theorem den_bool {b:B} {c:Bool} (h:b.val=c) (β:Env) (u:Value) (hd:Den β (.bool b) u):Den β (.bool (.sym c)) u:=by
 simp only[Den,B.val]at *
 rw[hd,h]
theorem den_t {p:Prop} [Decidable p] (h:p):∀β u,Den β (.bool (.lit true)) u→Den β (.bool (.sym (decide p))) u:=den_bool (by simp[B.val,h])
theorem den_f {p:Prop} [Decidable p] (h:¬p):∀β u,Den β (.bool (.lit false)) u→Den β (.bool (.sym (decide p))) u:=den_bool (by simp[B.val,h])
theorem den_s {p q:Prop} [Decidable p] [Decidable q] (h:q↔p):∀β u,Den β (.bool (.sym (decide q))) u→Den β (.bool (.sym (decide p))) u:=den_bool (by simp[B.val,h])
theorem stm_ok (args:List SV) (l:List (Nat×Reg)) (p:Ob) (v:SV) (h:rStm args l=some (p,v)) (hp:p.ok):∃U,execF cx0 U Tryz.f123 64 args (memL l) fun v' _=>∀β u,Den β v' u→Den β v u:=by
 refine ⟨u0,?_⟩
 unfold rStm at h
 split at h
 ·rename_i a b c d
  simp only[Option.some.injEq,Prod.mk.injEq]at h
  obtain ⟨rfl,rfl⟩:=h
  obtain ⟨ha,hb,hc,hd⟩:Wd a∧Wd b∧Wd c∧Wd d:=hp
  unfold Wd at *
  rw[vc_stm]
  simp only[decide_eq_true_eq,decide_eq_false_iff_not,beq_iff_eq,beq_eq_false_iff_ne,ne_eq]
  repeat' first
   | exact den_t (by unfold V4;omega)
   | exact den_f (by unfold V4;omega)
   | exact den_s (by unfold V4;omega)
   | apply And.intro
   | intro _
 ·cases h
def cStm:Rd Tryz.prog:=mkQ mixed 123 Tryz.func123 (by decide) (by kernel_rfl) [] [.ptr 4 true] rStm stm_ok
def r2N:Nat:=3096616502983703923843567936837374451735540968419076528771170197431451843209
def rRsq:R0:=fun args l=>
 match args,l with
 | [],[]=>some (none,.agg [.int .u64 (.lit 17522657719365597833),.int .u64 (.lit 13107472804851548667),.int .u64 (.lit 5164255478447964150),.int .u64 (.lit 493319470278259999)])
 | _,_=>none
theorem rsq_ok (args:List SV) (l:List (Nat×Reg)) (p:Ob) (v:SV) (h:rRsq args l=some (p,v)) (_:p.ok):∃U,execF cx0 U Tryz.f133 64 args (memL l) fun v' _=>v'=v:=by
 refine ⟨u0,?_⟩
 unfold rRsq at h
 split at h
 ·simp only[Option.some.injEq,Prod.mk.injEq]at h
  obtain ⟨rfl,rfl⟩:=h
  rw[vc_rsq]
 ·cases h
def cRsq:Rd Tryz.prog:=mkR mixed 133 Tryz.func133 (by decide) (by kernel_rfl) [] [] rRsq rsq_ok
theorem r2_el:El 17522657719365597833 13107472804851548667 5164255478447964150 493319470278259999 r2N:=by
 refine ⟨?_,?_,?_,?_,?_⟩<;>decide +kernel
theorem r2_eq:r2N=2 ^ 512%qN:=by decide +kernel
end Go.Sx
namespace Go.Sx
open Go
set_option maxRecDepth 100000
def MulS (x y:Int) (K:Int→Int→Prop):Prop:=(Wd x∧Wd y)∧∀h,h=mulHi x y→∀l,l=mulLo x y→K h l
def AddS (x y c:Int) (K:Int→Int→Prop):Prop:=(Wd x∧Wd y∧0≤c∧c≤1)∧∀s,s=sumLo x y c→∀h,h=sumHi x y c→K s h
theorem MulS.of {x y:Int} {K:Int→Int→Prop} (hx:Wd x) (hy:Wd y) (hK:∀h l,Wd h→Wd l→h≤y→h*18446744073709551616+l=x*y→K h l):MulS x y K:=by
 refine ⟨⟨hx,hy⟩,?_⟩
 rintro h rfl l rfl
 have h0:0≤x*y:=Int.mul_nonneg hx.1 hy.1
 have h1:x*y≤18446744073709551615*y:=Int.mul_le_mul_of_nonneg_right (by have:=hx.2;omega) hy.1
 unfold Wd at hx hy
 have hh:mulHi x y≤y:=by unfold mulHi;omega
 refine hK _ _ ?_ ?_ hh ?_
 ·unfold Wd
  unfold mulHi at *
  omega
 ·unfold mulLo Wd
  omega
 ·unfold mulHi mulLo
  omega
theorem AddS.of {x y c:Int} {K:Int→Int→Prop} (hx:Wd x) (hy:Wd y) (h0:0≤c) (h1:c≤1) (hK:∀s h,Wd s→0≤h→h≤1→s+h*18446744073709551616=x+y+c→K s h):AddS x y c K:=by
 refine ⟨⟨hx,hy,h0,h1⟩,?_⟩
 rintro s rfl h rfl
 unfold Wd at hx hy
 refine hK _ _ ?_ ?_ ?_ ?_
 ·unfold sumLo Wd
  omega
 ·unfold sumHi
  omega
 ·unfold sumHi
  omega
 ·unfold sumLo sumHi
  omega
theorem lt_a {u k:Int} (h:u≤3486998266802970665) (hk:k≤1):u+0+k<18446744073709551616:=by omega
theorem lt_b {c k:Int} (h:c≤9223372036854775807) (hk:k≤1):c+0+k<18446744073709551616:=by omega
theorem lt_c {u k v z c l w y n:Int} (h:u≤3486998266802970665) (hk:k≤1) (e:v+z*18446744073709551616=u+0+k) (hz:0≤z) (h':c≤9223372036854775807) (hl:l≤1) (e':w+y*18446744073709551616=c+0+l) (hy:0≤y) (hn:n≤1):
  v+w+n<18446744073709551616:=by omega
theorem wd0:Wd 0:=by unfold Wd;omega
theorem wdq0:Wd 4332616871279656263:=by unfold Wd;omega
theorem wdq1:Wd 10917124144477883021:=by unfold Wd;omega
theorem wdq2:Wd 13281191951274694749:=by unfold Wd;omega
theorem wdq3:Wd 3486998266802970665:=by unfold Wd;omega
theorem no_carry {s h x y c:Int} (e:s+h*18446744073709551616=x+y+c) (hs:Wd s) (h0:0≤h) (hb:x+y+c<18446744073709551616):h=0:=by
 unfold Wd at hs
 omega
theorem low_zero {t0 m u l z k:Int} (hm:m=9786893198990664585*t0%18446744073709551616) (e:u*18446744073709551616+l=m*4332616871279656263) (a:z+k*18446744073709551616=t0+l+0) (hz:Wd z):z=0:=by
 unfold Wd at hz
 omega
def Red (t0 t1 t2 t3 c2:Int) (K:Int→Int→Int→Int→Prop):Prop:=
 ∀m,m=IntKind.u64.wrap (9786893198990664585*t0)→
 MulS m 4332616871279656263 fun u0 c1=>AddS t0 c1 0 fun _ k0=>
 MulS m 10917124144477883021 fun u1 c1=>AddS t1 c1 k0 fun r0 k1=>
 MulS m 13281191951274694749 fun u2 c1=>AddS t2 c1 k1 fun r1 k2=>
 MulS m 3486998266802970665 fun u3 c1=>AddS 0 c1 k2 fun r2 k3=>AddS u3 0 k3 fun u3 _=>
 AddS u0 r0 0 fun r0 k0=>AddS u1 r1 k0 fun r1 k1=>AddS u2 r2 k1 fun r2 k2=>AddS c2 0 k2 fun c2 _=>
 AddS t3 r2 0 fun r2 k0=>AddS u3 c2 k0 fun r3 _=>K r0 r1 r2 r3
def Rnd1 (v b0 b1 b2 b3:Int) (K:Int→Int→Int→Int→Prop):Prop:=
 MulS v b0 fun u0 t0=>MulS v b1 fun u1 t1=>MulS v b2 fun u2 t2=>MulS v b3 fun u3 t3=>
 AddS u0 t1 0 fun t1 k0=>AddS u1 t2 k0 fun t2 k1=>AddS u2 t3 k1 fun t3 k2=>AddS u3 0 k2 fun c2 _=>Red t0 t1 t2 t3 c2 K
def Rnd (v b0 b1 b2 b3 t0 t1 t2 t3:Int) (K:Int→Int→Int→Int→Prop):Prop:=
 MulS v b0 fun u0 c1=>AddS c1 t0 0 fun t0 k0=>MulS v b1 fun u1 c1=>AddS c1 t1 k0 fun t1 k1=>MulS v b2 fun u2 c1=>AddS c1 t2 k1 fun t2 k2=>MulS v b3 fun u3 c1=>AddS c1 t3 k2 fun t3 k3=>
 AddS 0 0 k3 fun c2 _=>AddS u0 t1 0 fun t1 k0=>AddS u1 t2 k0 fun t2 k1=>AddS u2 t3 k1 fun t3 k2=>AddS u3 c2 k2 fun c2 _=>Red t0 t1 t2 t3 c2 K
theorem red_eq {t0 t1 t2 t3 c2 m u0 l0 z0 k0 u1 l1 r0 k1 u2 l2 r1 k2 u3 l3 r2 k3 u3' z1 s0 m0 s1 m1 s2 m2 c2n z2 x2 m3 x3 z3:Int}
  (e1:u0*18446744073709551616+l0=m*4332616871279656263) (e2:z0+k0*18446744073709551616=t0+l0+0) (e3:u1*18446744073709551616+l1=m*10917124144477883021) (e4:r0+k1*18446744073709551616=t1+l1+k0)
  (e5:u2*18446744073709551616+l2=m*13281191951274694749) (e6:r1+k2*18446744073709551616=t2+l2+k1) (e7:u3*18446744073709551616+l3=m*3486998266802970665) (e8:r2+k3*18446744073709551616=0+l3+k2)
  (e9:u3'+z1*18446744073709551616=u3+0+k3) (e10:s0+m0*18446744073709551616=u0+r0+0) (e11:s1+m1*18446744073709551616=u1+r1+m0) (e12:s2+m2*18446744073709551616=u2+r2+m1)
  (e13:c2n+z2*18446744073709551616=c2+0+m2) (e14:x2+m3*18446744073709551616=t3+s2+0) (e15:x3+z3*18446744073709551616=u3'+c2n+m3) (hz0:z0=0) (hz1:z1=0) (hz2:z2=0) (hz3:z3=0):
  V4 s0 s1 x2 x3*18446744073709551616=V4 t0 t1 t2 t3+c2*115792089237316195423570985008687907853269984665640564039457584007913129639936+m*21888242871839275222246405745257275088696311157297823662689037894645226208583:=by
 unfold V4
 omega
theorem Red.of {t0 t1 t2 t3 c2:Int} {K:Int→Int→Int→Int→Prop} (h0:Wd t0) (h1:Wd t1) (h2:Wd t2) (h3:Wd t3) (h4:0≤c2) (h5:c2≤9223372036854775807)
  (hK:∀r0 r1 r2 r3 m,Wd r0→Wd r1→Wd r2→Wd r3→Wd m→V4 r0 r1 r2 r3*18446744073709551616=V4 t0 t1 t2 t3+c2*115792089237316195423570985008687907853269984665640564039457584007913129639936+m*21888242871839275222246405745257275088696311157297823662689037894645226208583→K r0 r1 r2 r3):Red t0 t1 t2 t3 c2 K:=by
 have h4w:Wd c2:=by unfold Wd;omega
 intro m hm
 rw[wu64]at hm
 have hmw:Wd m:=by unfold Wd;omega
 refine MulS.of hmw wdq0 fun u0 l0 a0 a1 a2 a3=> ?_
 refine AddS.of h0 a1 (Int.le_refl _) (by decide) fun z0 k0 b0 b1 b2 b3=> ?_
 have hz0:=low_zero hm a3 b3 b0
 refine MulS.of hmw wdq1 fun u1 l1 c0 c1 c2' c3=> ?_
 refine AddS.of h1 c1 b1 b2 fun r0 k1 d0 d1 d2 d3=> ?_
 refine MulS.of hmw wdq2 fun u2 l2 e0 e1 e2 e3=> ?_
 refine AddS.of h2 e1 d1 d2 fun r1 k2 f0 f1 f2 f3=> ?_
 refine MulS.of hmw wdq3 fun u3 l3 g0 g1 g2 g3=> ?_
 refine AddS.of wd0 g1 f1 f2 fun r2 k3 i0 i1 i2 i3=> ?_
 refine AddS.of g0 wd0 i1 i2 fun u3' z1 j0 j1 j2 j3=> ?_
 have hz1:=no_carry j3 j0 j1 (lt_a g2 i2)
 refine AddS.of a0 d0 (Int.le_refl _) (by decide) fun s0 m0 n0 n1 n2 n3=> ?_
 refine AddS.of c0 f0 n1 n2 fun s1 m1 o0 o1 o2 o3=> ?_
 refine AddS.of e0 i0 o1 o2 fun s2 m2 p0 p1 p2 p3=> ?_
 refine AddS.of h4w wd0 p1 p2 fun c2n z2 q0 q1 q2 q3=> ?_
 have hz2:=no_carry q3 q0 q1 (lt_b h5 p2)
 refine AddS.of h3 p0 (Int.le_refl _) (by decide) fun x2 m3 v0 v1 v2 v3=> ?_
 refine AddS.of j0 q0 v1 v2 fun x3 z3 w0 w1 w2 w3=> ?_
 have hz3:=no_carry w3 w0 w1 (lt_c g2 i2 j3 j1 h5 p2 q3 q1 v2)
 exact hK _ _ _ _ m n0 o0 v0 w0 hmw (red_eq a3 b3 c3 d3 e3 f3 g3 i3 j3 n3 o3 p3 q3 v3 w3 hz0 hz1 hz2 hz3)
theorem mulV4 (v a b c d:Int):v*V4 a b c d=v*a+v*b*18446744073709551616+v*c*340282366920938463463374607431768211456+v*d*6277101735386680763835789423207666416102355444464034512896:=by
 unfold V4
 simp only[Int.mul_add,Int.mul_assoc]
theorem rnd_eq {v b0 b1 b2 b3 t0 t1 t2 t3 u0 l0 a0 k0 u1 l1 a1 k1 u2 l2 a2 k2 u3 l3 a3 k3 c z0 d1 k4 d2 k5 d3 k6 e z:Int}
  (e1:u0*18446744073709551616+l0=v*b0) (e2:a0+k0*18446744073709551616=l0+t0+0) (e3:u1*18446744073709551616+l1=v*b1) (e4:a1+k1*18446744073709551616=l1+t1+k0)
  (e5:u2*18446744073709551616+l2=v*b2) (e6:a2+k2*18446744073709551616=l2+t2+k1) (e7:u3*18446744073709551616+l3=v*b3) (e8:a3+k3*18446744073709551616=l3+t3+k2)
  (e9:c+z0*18446744073709551616=0+0+k3) (e10:d1+k4*18446744073709551616=u0+a1+0) (e11:d2+k5*18446744073709551616=u1+a2+k4) (e12:d3+k6*18446744073709551616=u2+a3+k5)
  (e13:e+z*18446744073709551616=u3+c+k6) (hz0:z0=0) (hz:z=0):
  V4 a0 d1 d2 d3+e*115792089237316195423570985008687907853269984665640564039457584007913129639936=V4 t0 t1 t2 t3+v*V4 b0 b1 b2 b3:=by
 rw[mulV4,←e1,←e3,←e5,←e7]
 unfold V4
 omega
theorem rnd1_eq {v b0 b1 b2 b3 u0 l0 u1 l1 u2 l2 u3 l3 d1 k4 d2 k5 d3 k6 e z:Int}
  (e1:u0*18446744073709551616+l0=v*b0) (e3:u1*18446744073709551616+l1=v*b1)
  (e5:u2*18446744073709551616+l2=v*b2) (e7:u3*18446744073709551616+l3=v*b3)
  (e10:d1+k4*18446744073709551616=u0+l1+0) (e11:d2+k5*18446744073709551616=u1+l2+k4) (e12:d3+k6*18446744073709551616=u2+l3+k5)
  (e13:e+z*18446744073709551616=u3+0+k6) (hz:z=0):
  V4 l0 d1 d2 d3+e*115792089237316195423570985008687907853269984665640564039457584007913129639936=v*V4 b0 b1 b2 b3:=by
 rw[mulV4,←e1,←e3,←e5,←e7]
 unfold V4
 omega
theorem lt_d {u c k k3 z:Int} (h:u≤3486998266802970665) (e:c+z*18446744073709551616=0+0+k3) (hz:0≤z) (h3:k3≤1) (hk:k≤1):u+c+k<18446744073709551616:=by omega
theorem le_d {u c k k3 z e y:Int} (h:u≤3486998266802970665) (a:c+z*18446744073709551616=0+0+k3) (hz:0≤z) (h3:k3≤1) (hk:k≤1) (a':e+y*18446744073709551616=u+c+k) (hy:0≤y):e≤9223372036854775807:=by omega
theorem lt_e {k:Int} (hk:k≤1):0+0+k<18446744073709551616:=by omega
theorem le_e {u k e y:Int} (h:u≤3486998266802970665) (hk:k≤1) (a':e+y*18446744073709551616=u+0+k) (hy:0≤y):e≤9223372036854775807:=by omega
def RndK (T v B:Int) (K:Int→Int→Int→Int→Prop):Prop:=
 ∀r0 r1 r2 r3 m,Wd r0→Wd r1→Wd r2→Wd r3→Wd m→V4 r0 r1 r2 r3*18446744073709551616=T+v*B+m*21888242871839275222246405745257275088696311157297823662689037894645226208583→K r0 r1 r2 r3
theorem Rnd.of {v b0 b1 b2 b3 t0 t1 t2 t3:Int} {K:Int→Int→Int→Int→Prop} (hv:Wd v) (hb0:Wd b0) (hb1:Wd b1) (hb2:Wd b2) (hb3:Wd b3) (hb:b3≤3486998266802970665) (h0:Wd t0) (h1:Wd t1) (h2:Wd t2) (h3:Wd t3)
  (hK:RndK (V4 t0 t1 t2 t3) v (V4 b0 b1 b2 b3) K):Rnd v b0 b1 b2 b3 t0 t1 t2 t3 K:=by
 refine MulS.of hv hb0 fun u0 l0 a0 a1 a2 a3=> ?_
 refine AddS.of a1 h0 (Int.le_refl _) (by decide) fun s0 k0 c0 c1 c2 c3=> ?_
 refine MulS.of hv hb1 fun u1 l1 d0 d1 d2 d3=> ?_
 refine AddS.of d1 h1 c1 c2 fun s1 k1 e0 e1 e2 e3=> ?_
 refine MulS.of hv hb2 fun u2 l2 f0 f1 f2 f3=> ?_
 refine AddS.of f1 h2 e1 e2 fun s2 k2 g0 g1 g2 g3=> ?_
 refine MulS.of hv hb3 fun u3 l3 i0 i1 i2 i3=> ?_
 refine AddS.of i1 h3 g1 g2 fun s3 k3 j0 j1 j2 j3=> ?_
 refine AddS.of wd0 wd0 j1 j2 fun c z0 m0 m1 m2 m3=> ?_
 have hz0:=no_carry m3 m0 m1 (lt_e j2)
 refine AddS.of a0 e0 (Int.le_refl _) (by decide) fun x1 k4 n0 n1 n2 n3=> ?_
 refine AddS.of d0 g0 n1 n2 fun x2 k5 o0 o1 o2 o3=> ?_
 refine AddS.of f0 j0 o1 o2 fun x3 k6 p0 p1 p2 p3=> ?_
 refine AddS.of i0 m0 p1 p2 fun e z q0 q1 q2 q3=> ?_
 have hu:=Int.le_trans i2 hb
 have hz:=no_carry q3 q0 q1 (lt_d hu m3 m1 j2 p2)
 refine Red.of c0 n0 o0 p0 q0.1 (le_d hu m3 m1 j2 p2 q3 q1) fun r0 r1 r2 r3 m w0 w1 w2 w3 wm he=> ?_
 refine hK _ _ _ _ m w0 w1 w2 w3 wm ?_
 rw[he,rnd_eq a3 c3 d3 e3 f3 g3 i3 j3 m3 n3 o3 p3 q3 hz0 hz]
theorem Rnd1.of {v b0 b1 b2 b3:Int} {K:Int→Int→Int→Int→Prop} (hv:Wd v) (hb0:Wd b0) (hb1:Wd b1) (hb2:Wd b2) (hb3:Wd b3) (hb:b3≤3486998266802970665)
  (hK:RndK 0 v (V4 b0 b1 b2 b3) K):Rnd1 v b0 b1 b2 b3 K:=by
 refine MulS.of hv hb0 fun u0 l0 a0 a1 a2 a3=> ?_
 refine MulS.of hv hb1 fun u1 l1 d0 d1 d2 d3=> ?_
 refine MulS.of hv hb2 fun u2 l2 f0 f1 f2 f3=> ?_
 refine MulS.of hv hb3 fun u3 l3 i0 i1 i2 i3=> ?_
 refine AddS.of a0 d1 (Int.le_refl _) (by decide) fun x1 k4 n0 n1 n2 n3=> ?_
 refine AddS.of d0 f1 n1 n2 fun x2 k5 o0 o1 o2 o3=> ?_
 refine AddS.of f0 i1 o1 o2 fun x3 k6 p0 p1 p2 p3=> ?_
 refine AddS.of i0 wd0 p1 p2 fun e z q0 q1 q2 q3=> ?_
 have hu:=Int.le_trans i2 hb
 have hz:=no_carry q3 q0 q1 (lt_a hu p2)
 refine Red.of a1 n0 o0 p0 q0.1 (le_e hu p2 q3 q1) fun r0 r1 r2 r3 m w0 w1 w2 w3 wm he=> ?_
 refine hK _ _ _ _ m w0 w1 w2 w3 wm ?_
 rw[he,rnd1_eq a3 d3 f3 i3 n3 o3 p3 q3 hz,Int.zero_add]
theorem rnd_lt {T v B m r:Int} (e:r*18446744073709551616=T+v*B+m*21888242871839275222246405745257275088696311157297823662689037894645226208583) (hT:T<2*21888242871839275222246405745257275088696311157297823662689037894645226208583)
  (hv:Wd v) (hm:Wd m) (h0:0≤B) (hB:B<21888242871839275222246405745257275088696311157297823662689037894645226208583):r<2*21888242871839275222246405745257275088696311157297823662689037894645226208583:=by
 have h1:v*B≤18446744073709551615*21888242871839275222246405745257275088696311157297823662689037894645226208582:=Int.mul_le_mul (by have:=hv.2;omega) (by omega) h0 (by omega)
 have:=hm.2
 omega
theorem V4_nonneg {a b c d:Int} (ha:Wd a) (hb:Wd b) (hc:Wd c) (hd:Wd d):0≤V4 a b c d:=by
 unfold Wd V4 at *
 omega
theorem top_le {a b c d:Int} (ha:Wd a) (hb:Wd b) (hc:Wd c) (hd:Wd d) (h:V4 a b c d<21888242871839275222246405745257275088696311157297823662689037894645226208583):d≤3486998266802970665:=by
 unfold Wd V4 at *
 omega
def SubS (x y c:Int) (K:Int→Int→Prop):Prop:=(Wd x∧Wd y∧0≤c∧c≤1)∧∀s,s=difLo x y c→∀h,h=difHi x y c→K s h
theorem SubS.of {x y c:Int} {K:Int→Int→Prop} (hx:Wd x) (hy:Wd y) (h0:0≤c) (h1:c≤1) (hK:∀s h,Wd s→0≤h→h≤1→s=x-y-c+h*18446744073709551616→K s h):SubS x y c K:=by
 refine ⟨⟨hx,hy,h0,h1⟩,?_⟩
 rintro s rfl h rfl
 unfold Wd at hx hy
 refine hK _ _ ?_ ?_ ?_ ?_
 ·unfold difLo Wd
  omega
 ·unfold difHi
  split<;>omega
 ·unfold difHi
  split<;>omega
 ·unfold difLo difHi
  split<;>omega
def FinR (t0 t1 t2 t3:Int) (K:Int→Int→Int→Int→Prop):Prop:=
 (Wd t0∧Wd t1∧Wd t2∧Wd t3)∧
 ((Bool.not (decide (V4 t0 t1 t2 t3<21888242871839275222246405745257275088696311157297823662689037894645226208583))=true→
  SubS t0 4332616871279656263 0 fun z0 b=>SubS t1 10917124144477883021 b fun z1 b=>SubS t2 13281191951274694749 b fun z2 b=>SubS t3 3486998266802970665 b fun z3 _=>K z0 z1 z2 z3)∧
  (Bool.not (decide (V4 t0 t1 t2 t3<21888242871839275222246405745257275088696311157297823662689037894645226208583))=false→K t0 t1 t2 t3))
theorem fin_eq {t0 t1 t2 t3 z0 z1 z2 z3 k0 k1 k2 k3:Int} (e0:z0=t0-4332616871279656263-0+k0*18446744073709551616) (e1:z1=t1-10917124144477883021-k0+k1*18446744073709551616)
  (e2:z2=t2-13281191951274694749-k1+k2*18446744073709551616) (e3:z3=t3-3486998266802970665-k2+k3*18446744073709551616):
  V4 z0 z1 z2 z3=V4 t0 t1 t2 t3-21888242871839275222246405745257275088696311157297823662689037894645226208583+k3*115792089237316195423570985008687907853269984665640564039457584007913129639936:=by
 unfold V4
 omega
theorem V4_lt {a b c d:Int} (ha:Wd a) (hb:Wd b) (hc:Wd c) (hd:Wd d):V4 a b c d<115792089237316195423570985008687907853269984665640564039457584007913129639936:=by
 unfold Wd V4 at *
 omega
theorem k_zero {z t k:Int} (e:z=t-21888242871839275222246405745257275088696311157297823662689037894645226208583+k*115792089237316195423570985008687907853269984665640564039457584007913129639936) (h0:0≤k)
  (hz:z<115792089237316195423570985008687907853269984665640564039457584007913129639936) (ht:¬t<21888242871839275222246405745257275088696311157297823662689037894645226208583):k=0:=by omega
theorem FinR.of {t0 t1 t2 t3:Int} {K:Int→Int→Int→Int→Prop} (h0:Wd t0) (h1:Wd t1) (h2:Wd t2) (h3:Wd t3) (hlt:V4 t0 t1 t2 t3<2*21888242871839275222246405745257275088696311157297823662689037894645226208583)
  (hK:∀z0 z1 z2 z3 k,Wd z0→Wd z1→Wd z2→Wd z3→V4 z0 z1 z2 z3<21888242871839275222246405745257275088696311157297823662689037894645226208583→0≤k→V4 t0 t1 t2 t3=V4 z0 z1 z2 z3+k*21888242871839275222246405745257275088696311157297823662689037894645226208583→K z0 z1 z2 z3):FinR t0 t1 t2 t3 K:=by
 refine ⟨⟨h0,h1,h2,h3⟩,fun h=> ?_,fun h=> ?_⟩
 ·have hge:¬V4 t0 t1 t2 t3<21888242871839275222246405745257275088696311157297823662689037894645226208583:=by simpa using h
  refine SubS.of h0 wdq0 (Int.le_refl _) (by decide) fun z0 k0 a0 a1 a2 a3=> ?_
  refine SubS.of h1 wdq1 a1 a2 fun z1 k1 b0 b1 b2 b3=> ?_
  refine SubS.of h2 wdq2 b1 b2 fun z2 k2 c0 c1 c2 c3=> ?_
  refine SubS.of h3 wdq3 c1 c2 fun z3 k3 d0 d1 d2 d3=> ?_
  have e:=fin_eq a3 b3 c3 d3
  have hk:=k_zero e d1 (V4_lt a0 b0 c0 d0) hge
  rw[hk]at e
  refine hK _ _ _ _ 1 a0 b0 c0 d0 ?_ (by decide) ?_
  ·rw[e];omega
  ·rw[e];omega
 ·have hl:V4 t0 t1 t2 t3<21888242871839275222246405745257275088696311157297823662689037894645226208583:=by simpa using h
  exact hK _ _ _ _ 0 h0 h1 h2 h3 hl (Int.le_refl _) (by omega)
structure Ws (a b c d:Int) (x:Nat):Prop where
 a:a=lm x 0
 b:b=lm x 1
 c:c=lm x 2
 d:d=lm x 3
 lt:x<115792089237316195423570985008687907853269984665640564039457584007913129639936
theorem El.ws {a b c d:Int} {x:Nat} (h:El a b c d x):Ws a b c d x:=⟨h.a,h.b,h.c,h.d,by have:=h.lt;unfold qN at this;omega⟩
theorem Ws.val {a b c d:Int} {x:Nat} (h:Ws a b c d x):V4 a b c d=(x:Int):=by
 rw[h.a,h.b,h.c,h.d]
 exact lm_val h.lt
theorem Ws.wd {a b c d:Int} {x:Nat} (h:Ws a b c d x):Wd a∧Wd b∧Wd c∧Wd d:=by
 rw[h.a,h.b,h.c,h.d]
 exact ⟨lm_wd _ _,lm_wd _ _,lm_wd _ _,lm_wd _ _⟩
theorem El.of_words {a b c d:Int} (ha:Wd a) (hb:Wd b) (hc:Wd c) (hd:Wd d) (h:V4 a b c d<21888242871839275222246405745257275088696311157297823662689037894645226208583):El a b c d (V4 a b c d).toNat:=by
 have h0:=V4_nonneg ha hb hc hd
 have hx:V4 a b c d=((V4 a b c d).toNat:Int):=by omega
 obtain ⟨e1,e2,e3,e4⟩:=lm_of ha hb hc hd hx
 exact ⟨e1,e2,e3,e4,by unfold qN;omega⟩
def MulP (a0 a1 a2 a3 b0 b1 b2 b3:Int) (K:Int→Int→Int→Int→Prop):Prop:=
 Rnd1 a0 b0 b1 b2 b3 fun t0 t1 t2 t3=>Rnd a1 b0 b1 b2 b3 t0 t1 t2 t3 fun t0 t1 t2 t3=>Rnd a2 b0 b1 b2 b3 t0 t1 t2 t3 fun t0 t1 t2 t3=>Rnd a3 b0 b1 b2 b3 t0 t1 t2 t3 fun t0 t1 t2 t3=>FinR t0 t1 t2 t3 K
theorem mulp_eq {a0 a1 a2 a3 B r1 r2 r3 r4 m0 m1 m2 m3 z k:Int} (e1:r1*18446744073709551616=0+a0*B+m0*21888242871839275222246405745257275088696311157297823662689037894645226208583)
  (e2:r2*18446744073709551616=r1+a1*B+m1*21888242871839275222246405745257275088696311157297823662689037894645226208583) (e3:r3*18446744073709551616=r2+a2*B+m2*21888242871839275222246405745257275088696311157297823662689037894645226208583)
  (e4:r4*18446744073709551616=r3+a3*B+m3*21888242871839275222246405745257275088696311157297823662689037894645226208583) (e5:r4=z+k*21888242871839275222246405745257275088696311157297823662689037894645226208583):
  z*115792089237316195423570985008687907853269984665640564039457584007913129639936+(k*115792089237316195423570985008687907853269984665640564039457584007913129639936)*21888242871839275222246405745257275088696311157297823662689037894645226208583=
   V4 a0 a1 a2 a3*B+(m0+m1*18446744073709551616+m2*340282366920938463463374607431768211456+m3*6277101735386680763835789423207666416102355444464034512896)*21888242871839275222246405745257275088696311157297823662689037894645226208583:=by
 unfold V4
 simp only[Int.add_mul]
 rw[Int.mul_right_comm a1,Int.mul_right_comm a2,Int.mul_right_comm a3]
 omega
theorem MulP.of {a0 a1 a2 a3 b0 b1 b2 b3:Int} {x y:Nat} {K:Int→Int→Int→Int→Prop} (hx:Ws a0 a1 a2 a3 x) (hy:El b0 b1 b2 b3 y) (hK:∀r,r=mmul x y→K (lm r 0) (lm r 1) (lm r 2) (lm r 3)):MulP a0 a1 a2 a3 b0 b1 b2 b3 K:=by
 obtain ⟨ha0,ha1,ha2,ha3⟩:=hx.wd
 obtain ⟨hb0,hb1,hb2,hb3⟩:=hy.wd
 have hB:=hy.val
 have hBl:V4 b0 b1 b2 b3<21888242871839275222246405745257275088696311157297823662689037894645226208583:=by rw[hB];have:=hy.lt;unfold qN at this;omega
 have hB0:=V4_nonneg hb0 hb1 hb2 hb3
 have htop:=top_le hb0 hb1 hb2 hb3 hBl
 refine Rnd1.of ha0 hb0 hb1 hb2 hb3 htop fun t0 t1 t2 t3 m0 c0 c1 c2 c3 cm e1=> ?_
 have l1:=rnd_lt e1 (by decide) ha0 cm hB0 hBl
 refine Rnd.of ha1 hb0 hb1 hb2 hb3 htop c0 c1 c2 c3 fun u0 u1 u2 u3 m1 d0 d1 d2 d3 dm e2=> ?_
 have l2:=rnd_lt e2 l1 ha1 dm hB0 hBl
 refine Rnd.of ha2 hb0 hb1 hb2 hb3 htop d0 d1 d2 d3 fun v0 v1 v2 v3 m2 f0 f1 f2 f3 fm e3=> ?_
 have l3:=rnd_lt e3 l2 ha2 fm hB0 hBl
 refine Rnd.of ha3 hb0 hb1 hb2 hb3 htop f0 f1 f2 f3 fun w0 w1 w2 w3 m3 g0 g1 g2 g3 gm e4=> ?_
 have l4:=rnd_lt e4 l3 ha3 gm hB0 hBl
 refine FinR.of g0 g1 g2 g3 l4 fun z0 z1 z2 z3 k i0 i1 i2 i3 il ik e5=> ?_
 have e:=mulp_eq e1 e2 e3 e4 e5
 have hE:=El.of_words i0 i1 i2 i3 il
 have hz:=V4_nonneg i0 i1 i2 i3
 rw[hx.val,hB]at e
 generalize hM:m0+m1*18446744073709551616+m2*340282366920938463463374607431768211456+m3*6277101735386680763835789423207666416102355444464034512896=M at e
 have hM0:0≤M:=by
  have:=cm.1
  have:=dm.1
  have:=fm.1
  have:=gm.1
  omega
 have hr:(V4 z0 z1 z2 z3).toNat=mmul x y:=by
  refine mmul_of (k:=(k*115792089237316195423570985008687907853269984665640564039457584007913129639936).toNat) (m:=M.toNat) hE.lt ?_
  unfold qN
  have ex:((x*y:Nat):Int)=(x:Int)*y:=by push_cast;rfl
  omega
 have:=hK _ hr
 obtain ⟨q1,q2,q3,q4,_⟩:=hE
 rw[←q1,←q2,←q3,←q4]at this
 exact this
end Go.Sx
namespace Go.Sx
open Go Go.Proofs
set_option maxRecDepth 100000
def w4 (a b c d:Int):Ct:= .cells [.int .u64 (.sym a),.int .u64 (.sym b),.int .u64 (.sym c),.int .u64 (.sym d)]
def e4 (x:Nat):Ct:=w4 (lm x 0) (lm x 1) (lm x 2) (lm x 3)
def cxMul:Cx Tryz.prog:= { rds:= [cMul64,cAdd,cSub,cStm],efs:= [],eqs:= [] }
theorem vc_mul (a0 a1 a2 a3 b0 b1 b2 b3:Int) (K:SV→Mem→Prop):execF cxMul u0 Tryz.f75 64 [.ptr 1 (.lit 0),.ptr 1 (.lit 0),.ptr 9 (.lit 0)] (memL [(1,⟨false,w4 a0 a1 a2 a3⟩),(9,⟨true,w4 b0 b1 b2 b3⟩)]) K=(MulP a0 a1 a2 a3
 b0 b1 b2 b3 fun a b c d=>K (.ptr 1 (.lit 0)) (memL [(1,⟨false,w4 a b c d⟩),(9,⟨true,w4 b0 b1 b2 b3⟩)])):=by kernel_rfl
def gMul:G0:=fun args l K=>
 match args,l with
 | [.ptr 1 (.lit 0),.ptr 1 (.lit 0),.ptr 9 (.lit 0)],[(1,⟨false,.cells [.int .u64 (.sym a0),.int .u64 (.sym a1),.int .u64 (.sym a2),.int .u64 (.sym a3)]⟩),(9,⟨true,.cells [.int .u64 (.sym b0),.int .u64 (.sym b1),.int .u64 (.sym b2),.int .u64 (.sym b3)]⟩)]=>
  ∃x y,(Ws a0 a1 a2 a3 x∧El b0 b1 b2 b3 y)∧∀r,r=mmul x y→K (.ptr 1 (.lit 0)) (memL [(1,⟨false,e4 r⟩),(9,⟨true,w4 b0 b1 b2 b3⟩)])
 | _,_=>False
theorem mul_good:Good gMul:=by
 constructor
 ·intro args l K K' hk h
  unfold gMul at h ⊢
  split at h
  ·obtain ⟨x,y,h1,h2⟩:=h
   exact ⟨x,y,h1,fun H hH=>hk _ _ (h2 H hH)⟩
  ·exact h.elim
 ·intro args l K h
  unfold gMul at h
  split at h
  ·obtain ⟨x,y,h1,h2⟩:=h
   exact ⟨_,_,h2 _ rfl⟩
  ·exact h.elim
theorem mul_ok (args:List SV) (l:List (Nat×Reg)) (K:SV→Mem→Prop) (hK:KUp K) (h:gMul args l K):∃U,execF cxMul U Tryz.f75 64 args (memL l) K:=by
 unfold gMul at h
 split at h
 ·rename_i a0 a1 a2 a3 b0 b1 b2 b3
  obtain ⟨x,y,⟨h1,h2⟩,h3⟩:=h
  refine ⟨u0,?_⟩
  have:=vc_mul a0 a1 a2 a3 b0 b1 b2 b3 K
  unfold w4 at this
  rw[this]
  exact MulP.of h1 h2 fun r hr=>h3 r hr
 ·exact h.elim
def cMul:Ef Tryz.prog:=mkE mixed 75 Tryz.func75 (by decide) (by kernel_rfl) [] [.ptr 4 false,.ptr 4 true,.ptr 4 true] gMul mul_good mul_ok
def cxAr:Cx Tryz.prog:= { rds:= [cMul64,cAdd],efs:= [],eqs:= [] }
def m0v (a b c:Int):Int:=sumLo (mulHi a b) 0 (sumHi (mulLo a b) c 0)
def m2h (a b c d:Int):Int:=sumLo (sumLo (mulHi a b) 0 (sumHi c d 0)) 0 (sumHi (mulLo a b) (sumLo c d 0) 0)
def m2l (a b c d:Int):Int:=sumLo (mulLo a b) (sumLo c d 0) 0
theorem vc_m0 (a b c:Int) (K:SV→Mem→Prop):execF cxAr u0 Tryz.f163 64 [.int .u64 (.sym a),.int .u64 (.sym b),.int .u64 (.sym c)] (memL []) K=(MulS a b fun h l=>AddS l c 0 fun _ k=>AddS h 0 k fun h _=>K (.int .u64 (.sym h))
 (memL [])):=by kernel_rfl
theorem vc_m2 (a b c d:Int) (K:SV→Mem→Prop):execF cxAr u0 Tryz.f164 64 [.int .u64 (.sym a),.int .u64 (.sym b),.int .u64 (.sym c),.int .u64 (.sym d)] (memL []) K=(MulS a b fun h l=>AddS c d 0 fun c k=>AddS h 0 k fun h _=>
 AddS l c 0 fun l k=>AddS h 0 k fun h _=>K (.tup [.int .u64 (.sym h),.int .u64 (.sym l)]) (memL [])):=by kernel_rfl
theorem mulHi_wd {x y:Int} (hx:Wd x) (hy:Wd y):Wd (mulHi x y):=by
 have h0:0≤x*y:=Int.mul_nonneg hx.1 hy.1
 have h1:x*y≤18446744073709551615*y:=Int.mul_le_mul_of_nonneg_right (by have:=hx.2;omega) hy.1
 unfold mulHi
 unfold Wd at *
 omega
theorem mulLo_wd (x y:Int):Wd (mulLo x y):=by unfold mulLo Wd;omega
theorem sumLo_wd (x y c:Int):Wd (sumLo x y c):=by unfold sumLo Wd;omega
theorem sumHi_le {x y c:Int} (hx:Wd x) (hy:Wd y) (h0:0≤c) (h1:c≤1):0≤sumHi x y c∧sumHi x y c≤1:=by
 unfold Wd at *
 unfold sumHi
 omega
def rM0:R0:=fun args l=>
 match args,l with
 | [.int .u64 (.sym a),.int .u64 (.sym b),.int .u64 (.sym c)],[]=>some (some (Wd a∧Wd b∧Wd c),.int .u64 (.sym (m0v a b c)))
 | _,_=>none
theorem m0_ok (args:List SV) (l:List (Nat×Reg)) (p:Ob) (v:SV) (h:rM0 args l=some (p,v)) (hp:p.ok):∃U,execF cxAr U Tryz.f163 64 args (memL l) fun v' _=>v'=v:=by
 refine ⟨u0,?_⟩
 unfold rM0 at h
 split at h
 ·rename_i a b c
  simp only[Option.some.injEq,Prod.mk.injEq]at h
  obtain ⟨rfl,rfl⟩:=h
  obtain ⟨ha,hb,hc⟩:Wd a∧Wd b∧Wd c:=hp
  rw[vc_m0]
  refine ⟨⟨ha,hb⟩,?_⟩
  rintro _ rfl _ rfl
  refine ⟨⟨mulLo_wd _ _,hc,by decide,by decide⟩,?_⟩
  rintro _ rfl _ rfl
  refine ⟨⟨mulHi_wd ha hb,wd0,sumHi_le (mulLo_wd _ _) hc (by decide) (by decide)⟩,?_⟩
  rintro _ rfl _ rfl
  rfl
 ·cases h
def cM0:Rd Tryz.prog:=mkR mixed 163 Tryz.func163 (by decide) (by kernel_rfl) [] [.num,.num,.num] rM0 m0_ok
def rM2:R0:=fun args l=>
 match args,l with
 | [.int .u64 (.sym a),.int .u64 (.sym b),.int .u64 (.sym c),.int .u64 (.sym d)],[]=>some (some (Wd a∧Wd b∧Wd c∧Wd d),.tup [.int .u64 (.sym (m2h a b c d)),.int .u64 (.sym (m2l a b c d))])
 | _,_=>none
theorem m2_ok (args:List SV) (l:List (Nat×Reg)) (p:Ob) (v:SV) (h:rM2 args l=some (p,v)) (hp:p.ok):∃U,execF cxAr U Tryz.f164 64 args (memL l) fun v' _=>v'=v:=by
 refine ⟨u0,?_⟩
 unfold rM2 at h
 split at h
 ·rename_i a b c d
  simp only[Option.some.injEq,Prod.mk.injEq]at h
  obtain ⟨rfl,rfl⟩:=h
  obtain ⟨ha,hb,hc,hd⟩:Wd a∧Wd b∧Wd c∧Wd d:=hp
  rw[vc_m2]
  refine ⟨⟨ha,hb⟩,?_⟩
  rintro _ rfl _ rfl
  refine ⟨⟨hc,hd,by decide,by decide⟩,?_⟩
  rintro _ rfl _ rfl
  refine ⟨⟨mulHi_wd ha hb,wd0,sumHi_le hc hd (by decide) (by decide)⟩,?_⟩
  rintro _ rfl _ rfl
  refine ⟨⟨mulLo_wd _ _,sumLo_wd _ _ _,by decide,by decide⟩,?_⟩
  rintro _ rfl _ rfl
  refine ⟨⟨sumLo_wd _ _ _,wd0,sumHi_le (mulLo_wd _ _) (sumLo_wd _ _ _) (by decide) (by decide)⟩,?_⟩
  rintro _ rfl _ rfl
  rfl
 ·cases h
def cM2:Rd Tryz.prog:=mkR mixed 164 Tryz.func164 (by decide) (by kernel_rfl) [] [.num,.num,.num,.num] rM2 m2_ok
theorem m0v_eq {a b c:Int} (ha:Wd a) (hb:Wd b) (hc:Wd c):m0v a b c=(a*b+c) / 18446744073709551616:=by
 have h0:0≤a*b:=Int.mul_nonneg ha.1 hb.1
 have h1:a*b≤18446744073709551615*b:=Int.mul_le_mul_of_nonneg_right (by have:=ha.2;omega) hb.1
 unfold m0v sumLo sumHi mulHi mulLo
 unfold Wd at *
 omega
theorem m2_eq {a b c d:Int} (ha:Wd a) (hb:Wd b) (hc:Wd c) (hd:Wd d):m2h a b c d*18446744073709551616+m2l a b c d=a*b+c+d:=by
 have h0:0≤a*b:=Int.mul_nonneg ha.1 hb.1
 have h1:a*b≤18446744073709551615*b:=Int.mul_le_mul_of_nonneg_right (by have:=ha.2;omega) hb.1
 unfold m2h m2l sumLo sumHi mulHi mulLo
 unfold Wd at *
 omega
theorem m2h_wd (a b c d:Int):Wd (m2h a b c d):=by unfold m2h;exact sumLo_wd _ _ _
theorem m2l_wd (a b c d:Int):Wd (m2l a b c d):=by unfold m2l;exact sumLo_wd _ _ _
theorem m0v_wd (a b c:Int):Wd (m0v a b c):=by unfold m0v;exact sumLo_wd _ _ _
def AddP (a0 a1 a2 a3 b0 b1 b2 b3:Int) (K:Int→Int→Int→Int→Prop):Prop:=
 AddS a0 b0 0 fun s0 k=>AddS a1 b1 k fun s1 k=>AddS a2 b2 k fun s2 k=>AddS a3 b3 k fun s3 _=>FinR s0 s1 s2 s3 K
theorem addp_eq {a0 a1 a2 a3 b0 b1 b2 b3 s0 s1 s2 s3 k0 k1 k2 k3:Int} (e0:s0+k0*18446744073709551616=a0+b0+0) (e1:s1+k1*18446744073709551616=a1+b1+k0)
  (e2:s2+k2*18446744073709551616=a2+b2+k1) (e3:s3+k3*18446744073709551616=a3+b3+k2):V4 s0 s1 s2 s3+k3*115792089237316195423570985008687907853269984665640564039457584007913129639936=V4 a0 a1 a2 a3+V4 b0 b1 b2 b3:=by
 unfold V4
 omega
theorem add_carry {S A B k:Int} (e:S+k*115792089237316195423570985008687907853269984665640564039457584007913129639936=A+B) (hS:0≤S) (hA:A<21888242871839275222246405745257275088696311157297823662689037894645226208583) (hB:B<21888242871839275222246405745257275088696311157297823662689037894645226208583) (hk:0≤k):
  S=A+B∧S<2*21888242871839275222246405745257275088696311157297823662689037894645226208583:=by omega
theorem AddP.of {a0 a1 a2 a3 b0 b1 b2 b3:Int} {x y:Nat} {K:Int→Int→Int→Int→Prop} (hx:El a0 a1 a2 a3 x) (hy:El b0 b1 b2 b3 y) (hK:∀r,r=(x+y)%qN→K (lm r 0) (lm r 1) (lm r 2) (lm r 3)):AddP a0 a1 a2 a3 b0 b1 b2 b3 K:=by
 obtain ⟨ha0,ha1,ha2,ha3⟩:=hx.wd
 obtain ⟨hb0,hb1,hb2,hb3⟩:=hy.wd
 refine AddS.of ha0 hb0 (Int.le_refl _) (by decide) fun s0 k0 c0 c1 c2 c3=> ?_
 refine AddS.of ha1 hb1 c1 c2 fun s1 k1 d0 d1 d2 d3=> ?_
 refine AddS.of ha2 hb2 d1 d2 fun s2 k2 e0 e1 e2 e3=> ?_
 refine AddS.of ha3 hb3 e1 e2 fun s3 k3 f0 f1 f2 f3=> ?_
 have e:=addp_eq c3 d3 e3 f3
 have hA:=hx.val
 have hB:=hy.val
 rw[hA,hB]at e
 have hxl:(x:Int)<21888242871839275222246405745257275088696311157297823662689037894645226208583:=by have:=hx.lt;unfold qN at this;omega
 have hyl:(y:Int)<21888242871839275222246405745257275088696311157297823662689037894645226208583:=by have:=hy.lt;unfold qN at this;omega
 obtain ⟨g1,g2⟩:=add_carry e (V4_nonneg c0 d0 e0 f0) hxl hyl f1
 refine FinR.of c0 d0 e0 f0 g2 fun z0 z1 z2 z3 k i0 i1 i2 i3 il ik e5=> ?_
 have hE:=El.of_words i0 i1 i2 i3 il
 have hz:=V4_nonneg i0 i1 i2 i3
 have hr:(V4 z0 z1 z2 z3).toNat=(x+y)%qN:=by
  rw[g1]at e5
  have h2:x+y=(V4 z0 z1 z2 z3).toNat+qN*k.toNat:=by unfold qN;omega
  rw[h2,Nat.add_mul_mod_self_left,Nat.mod_eq_of_lt hE.lt]
 have:=hK _ hr
 obtain ⟨q1,q2,q3,q4,_⟩:=hE
 rw[←q1,←q2,←q3,←q4]at this
 exact this
def cxAdd:Cx Tryz.prog:= { rds:= [cAdd,cSub,cStm],efs:= [],eqs:= [] }
theorem vc_add (a0 a1 a2 a3 b0 b1 b2 b3:Int) (K:SV→Mem→Prop):execF cxAdd u0 Tryz.f73 64 [.ptr 1 (.lit 0),.ptr 1 (.lit 0),.ptr 9 (.lit 0)] (memL [(1,⟨false,w4 a0 a1 a2 a3⟩),(9,⟨true,w4 b0 b1 b2 b3⟩)]) K=(AddP a0 a1 a2 a3
 b0 b1 b2 b3 fun a b c d=>K (.ptr 1 (.lit 0)) (memL [(1,⟨false,w4 a b c d⟩),(9,⟨true,w4 b0 b1 b2 b3⟩)])):=by kernel_rfl
def gAdd:G0:=fun args l K=>
 match args,l with
 | [.ptr 1 (.lit 0),.ptr 1 (.lit 0),.ptr 9 (.lit 0)],[(1,⟨false,.cells [.int .u64 (.sym a0),.int .u64 (.sym a1),.int .u64 (.sym a2),.int .u64 (.sym a3)]⟩),(9,⟨true,.cells [.int .u64 (.sym b0),.int .u64 (.sym b1),.int .u64 (.sym b2),.int .u64 (.sym b3)]⟩)]=>
  ∃x y,(El a0 a1 a2 a3 x∧El b0 b1 b2 b3 y)∧∀r,r=(x+y)%qN→K (.ptr 1 (.lit 0)) (memL [(1,⟨false,e4 r⟩),(9,⟨true,w4 b0 b1 b2 b3⟩)])
 | _,_=>False
theorem add_good:Good gAdd:=by
 constructor
 ·intro args l K K' hk h
  unfold gAdd at h ⊢
  split at h
  ·obtain ⟨x,y,h1,h2⟩:=h
   exact ⟨x,y,h1,fun H hH=>hk _ _ (h2 H hH)⟩
  ·exact h.elim
 ·intro args l K h
  unfold gAdd at h
  split at h
  ·obtain ⟨x,y,h1,h2⟩:=h
   exact ⟨_,_,h2 _ rfl⟩
  ·exact h.elim
theorem add_ok (args:List SV) (l:List (Nat×Reg)) (K:SV→Mem→Prop) (hK:KUp K) (h:gAdd args l K):∃U,execF cxAdd U Tryz.f73 64 args (memL l) K:=by
 unfold gAdd at h
 split at h
 ·rename_i a0 a1 a2 a3 b0 b1 b2 b3
  obtain ⟨x,y,⟨h1,h2⟩,h3⟩:=h
  refine ⟨u0,?_⟩
  have:=vc_add a0 a1 a2 a3 b0 b1 b2 b3 K
  unfold w4 at this
  rw[this]
  exact AddP.of h1 h2 fun r hr=>h3 r hr
 ·exact h.elim
def cAddE:Ef Tryz.prog:=mkE mixed 73 Tryz.func73 (by decide) (by kernel_rfl) [] [.ptr 4 false,.ptr 4 true,.ptr 4 true] gAdd add_good add_ok
def M0P (a b c:Int) (K:Int→Prop):Prop:=(Wd a∧Wd b∧Wd c)∧∀h,h=m0v a b c→K h
def M2P (a b c d:Int) (K:Int→Int→Prop):Prop:=(Wd a∧Wd b∧Wd c∧Wd d)∧∀h,h=m2h a b c d→∀l,l=m2l a b c d→K h l
def FmR (z0 z1 z2 z3:Int) (K:Int→Int→Int→Int→Prop):Prop:=
 ∀m,m=IntKind.u64.wrap (z0*9786893198990664585)→M0P m 4332616871279656263 z0 fun c=>M2P m 10917124144477883021 z1 c fun c r0=>M2P m 13281191951274694749 z2 c fun c r1=>M2P m 3486998266802970665 z3 c fun c r2=>K r0 r1 r2 c
def FmP (a0 a1 a2 a3:Int) (K:Int→Int→Int→Int→Prop):Prop:=
 FmR a0 a1 a2 a3 fun t0 t1 t2 t3=>FmR t0 t1 t2 t3 fun t0 t1 t2 t3=>FmR t0 t1 t2 t3 fun t0 t1 t2 t3=>FmR t0 t1 t2 t3 fun t0 t1 t2 t3=>FinR t0 t1 t2 t3 K
theorem fm_low {m z0 c:Int} (hm:m=z0*9786893198990664585%18446744073709551616) (h:c=(m*4332616871279656263+z0) / 18446744073709551616):c*18446744073709551616=m*4332616871279656263+z0:=by omega
theorem fm_eq {m z0 z1 z2 z3 c0 c1 r0 c2 r1 c3 r2:Int} (e0:c0*18446744073709551616=m*4332616871279656263+z0) (e1:c1*18446744073709551616+r0=m*10917124144477883021+z1+c0)
  (e2:c2*18446744073709551616+r1=m*13281191951274694749+z2+c1) (e3:c3*18446744073709551616+r2=m*3486998266802970665+z3+c2):
  V4 r0 r1 r2 c3*18446744073709551616=V4 z0 z1 z2 z3+m*21888242871839275222246405745257275088696311157297823662689037894645226208583:=by
 unfold V4
 omega
theorem FmR.of {z0 z1 z2 z3:Int} {K:Int→Int→Int→Int→Prop} (h0:Wd z0) (h1:Wd z1) (h2:Wd z2) (h3:Wd z3)
  (hK:∀r0 r1 r2 r3 m,Wd r0→Wd r1→Wd r2→Wd r3→Wd m→V4 r0 r1 r2 r3*18446744073709551616=V4 z0 z1 z2 z3+m*21888242871839275222246405745257275088696311157297823662689037894645226208583→K r0 r1 r2 r3):FmR z0 z1 z2 z3 K:=by
 intro m hm
 rw[wu64]at hm
 have hmw:Wd m:=by unfold Wd;omega
 refine ⟨⟨hmw,wdq0,h0⟩,?_⟩
 intro c0 hc0
 have wc0:Wd c0:=by rw[hc0];exact m0v_wd _ _ _
 rw[m0v_eq hmw wdq0 h0]at hc0
 refine ⟨⟨hmw,wdq1,h1,wc0⟩,?_⟩
 rintro c1 rfl r0 rfl
 refine ⟨⟨hmw,wdq2,h2,m2h_wd _ _ _ _⟩,?_⟩
 rintro c2 rfl r1 rfl
 refine ⟨⟨hmw,wdq3,h3,m2h_wd _ _ _ _⟩,?_⟩
 rintro c3 rfl r2 rfl
 refine hK _ _ _ _ m (m2l_wd _ _ _ _) (m2l_wd _ _ _ _) (m2l_wd _ _ _ _) (m2h_wd _ _ _ _) hmw ?_
 exact fm_eq (fm_low hm hc0) (m2_eq hmw wdq1 h1 wc0) (m2_eq hmw wdq2 h2 (m2h_wd _ _ _ _)) (m2_eq hmw wdq3 h3 (m2h_wd _ _ _ _))
theorem fm_lt {R T m:Int} (e:R*18446744073709551616=T+m*21888242871839275222246405745257275088696311157297823662689037894645226208583) (hm:Wd m) (h:T<115792089237316195423570985008687907853269984665640564039457584007913129639936):
  R<2*21888242871839275222246405745257275088696311157297823662689037894645226208583:=by unfold Wd at hm;omega
theorem fmp_eq {V r1 r2 r3 r4 m0 m1 m2 m3 z k:Int} (e1:r1*18446744073709551616=V+m0*21888242871839275222246405745257275088696311157297823662689037894645226208583)
  (e2:r2*18446744073709551616=r1+m1*21888242871839275222246405745257275088696311157297823662689037894645226208583) (e3:r3*18446744073709551616=r2+m2*21888242871839275222246405745257275088696311157297823662689037894645226208583)
  (e4:r4*18446744073709551616=r3+m3*21888242871839275222246405745257275088696311157297823662689037894645226208583) (e5:r4=z+k*21888242871839275222246405745257275088696311157297823662689037894645226208583):
  z*115792089237316195423570985008687907853269984665640564039457584007913129639936+(k*115792089237316195423570985008687907853269984665640564039457584007913129639936)*21888242871839275222246405745257275088696311157297823662689037894645226208583=
   V+(m0+m1*18446744073709551616+m2*340282366920938463463374607431768211456+m3*6277101735386680763835789423207666416102355444464034512896)*21888242871839275222246405745257275088696311157297823662689037894645226208583:=by
 omega
theorem FmP.of {a0 a1 a2 a3:Int} {x:Nat} {K:Int→Int→Int→Int→Prop} (hx:Ws a0 a1 a2 a3 x) (hK:∀r,r=mmul x 1→K (lm r 0) (lm r 1) (lm r 2) (lm r 3)):FmP a0 a1 a2 a3 K:=by
 obtain ⟨ha0,ha1,ha2,ha3⟩:=hx.wd
 refine FmR.of ha0 ha1 ha2 ha3 fun t0 t1 t2 t3 m0 c0 c1 c2 c3 cm e1=> ?_
 refine FmR.of c0 c1 c2 c3 fun u0 u1 u2 u3 m1 d0 d1 d2 d3 dm e2=> ?_
 refine FmR.of d0 d1 d2 d3 fun v0 v1 v2 v3 m2 f0 f1 f2 f3 fm e3=> ?_
 refine FmR.of f0 f1 f2 f3 fun w0 w1 w2 w3 m3 g0 g1 g2 g3 gm e4=> ?_
 refine FinR.of g0 g1 g2 g3 (fm_lt e4 gm (V4_lt f0 f1 f2 f3)) fun z0 z1 z2 z3 k i0 i1 i2 i3 il ik e5=> ?_
 have e:=fmp_eq e1 e2 e3 e4 e5
 have hE:=El.of_words i0 i1 i2 i3 il
 have hz:=V4_nonneg i0 i1 i2 i3
 rw[hx.val]at e
 generalize hM:m0+m1*18446744073709551616+m2*340282366920938463463374607431768211456+m3*6277101735386680763835789423207666416102355444464034512896=M at e
 have hM0:0≤M:=by
  have:=cm.1
  have:=dm.1
  have:=fm.1
  have:=gm.1
  omega
 have hr:(V4 z0 z1 z2 z3).toNat=mmul x 1:=by
  refine mmul_of (k:=(k*115792089237316195423570985008687907853269984665640564039457584007913129639936).toNat) (m:=M.toNat) hE.lt ?_
  unfold qN
  omega
 have:=hK _ hr
 obtain ⟨q1,q2,q3,q4,_⟩:=hE
 rw[←q1,←q2,←q3,←q4]at this
 exact this
def cxFmg:Cx Tryz.prog:= { rds:= [cM0,cM2,cSub,cStm],efs:= [],eqs:= [] }
theorem vc_fmg (a0 a1 a2 a3:Int) (K:SV→Mem→Prop):execF cxFmg u0 Tryz.f146 64 [.ptr 1 (.lit 0)] (memL [(1,⟨false,w4 a0 a1 a2 a3⟩)]) K=(FmP a0 a1 a2 a3 fun a b c d=>K (.tup []) (memL [(1,⟨false,w4 a b c d⟩)])):=by kernel_rfl
def gFm:G0:=fun args l K=>
 match args,l with
 | [.ptr 1 (.lit 0)],[(1,⟨false,.cells [.int .u64 (.sym a0),.int .u64 (.sym a1),.int .u64 (.sym a2),.int .u64 (.sym a3)]⟩)]=>
  ∃x,Ws a0 a1 a2 a3 x∧∀r,r=mmul x 1→K (.tup []) (memL [(1,⟨false,e4 r⟩)])
 | _,_=>False
theorem fm_good:Good gFm:=by
 constructor
 ·intro args l K K' hk h
  unfold gFm at h ⊢
  split at h
  ·obtain ⟨x,h1,h2⟩:=h
   exact ⟨x,h1,fun H hH=>hk _ _ (h2 H hH)⟩
  ·exact h.elim
 ·intro args l K h
  unfold gFm at h
  split at h
  ·obtain ⟨x,h1,h2⟩:=h
   exact ⟨_,_,h2 _ rfl⟩
  ·exact h.elim
theorem fmg_ok (args:List SV) (l:List (Nat×Reg)) (K:SV→Mem→Prop) (hK:KUp K) (h:gFm args l K):∃U,execF cxFmg U Tryz.f146 64 args (memL l) K:=by
 unfold gFm at h
 split at h
 ·rename_i a0 a1 a2 a3
  obtain ⟨x,h1,h3⟩:=h
  refine ⟨u0,?_⟩
  have:=vc_fmg a0 a1 a2 a3 K
  unfold w4 at this
  rw[this]
  exact FmP.of h1 fun r hr=>h3 r hr
 ·exact h.elim
def cFmg:Ef Tryz.prog:=mkE mixed 146 Tryz.func146 (by decide) (by kernel_rfl) [] [.ptr 4 false] gFm fm_good fmg_ok
def cxFm:Cx Tryz.prog:= { rds:= [],efs:= [cFmg],eqs:= [] }
theorem vc_fm (a0 a1 a2 a3:Int) (K:SV→Mem→Prop):execF cxFm u0 Tryz.f107 64 [.ptr 1 (.lit 0)] (memL [(1,⟨false,w4 a0 a1 a2 a3⟩)]) K=(∃x,Ws a0 a1 a2 a3 x∧∀r,r=mmul x 1→K (.tup []) (memL [(1,⟨false,e4 r⟩)])):=by kernel_rfl
theorem fm_ok (args:List SV) (l:List (Nat×Reg)) (K:SV→Mem→Prop) (hK:KUp K) (h:gFm args l K):∃U,execF cxFm U Tryz.f107 64 args (memL l) K:=by
 unfold gFm at h
 split at h
 ·rename_i a0 a1 a2 a3
  refine ⟨u0,?_⟩
  have:=vc_fm a0 a1 a2 a3 K
  unfold w4 at this
  rw[this]
  exact h
 ·exact h.elim
def cFm:Ef Tryz.prog:=mkE mixed 107 Tryz.func107 (by decide) (by kernel_rfl) [] [.ptr 4 false] gFm fm_good fm_ok
theorem vc_sz (a0 a1 a2 a3:Int) (K:SV→Mem→Prop):execF cx0 u0 Tryz.f67 64 [.ptr 1 (.lit 0)] (memL [(1,⟨false,w4 a0 a1 a2 a3⟩)]) K=K (.ptr 1 (.lit 0)) (memL [(1,⟨false,.cells [.int .u64 (.lit 0),.int .u64 (.lit 0),.int .u64
 (.lit 0),.int .u64 (.lit 0)]⟩)]):=by kernel_rfl
def gSz:G0:=fun args l K=>
 match args,l with
 | [.ptr 1 (.lit 0)],[(1,⟨false,.cells [.int .u64 (.sym _),.int .u64 (.sym _),.int .u64 (.sym _),.int .u64 (.sym _)]⟩)]=>
  K (.ptr 1 (.lit 0)) (memL [(1,⟨false,.cells [.int .u64 (.lit 0),.int .u64 (.lit 0),.int .u64 (.lit 0),.int .u64 (.lit 0)]⟩)])
 | _,_=>False
theorem sz_good:Good gSz:=by
 constructor
 ·intro args l K K' hk h
  unfold gSz at h ⊢
  split at h
  ·exact hk _ _ h
  ·exact h.elim
 ·intro args l K h
  unfold gSz at h
  split at h
  ·exact ⟨_,_,h⟩
  ·exact h.elim
theorem sz_ok (args:List SV) (l:List (Nat×Reg)) (K:SV→Mem→Prop) (hK:KUp K) (h:gSz args l K):∃U,execF cx0 U Tryz.f67 64 args (memL l) K:=by
 unfold gSz at h
 split at h
 ·rename_i a0 a1 a2 a3
  refine ⟨u0,?_⟩
  have:=vc_sz a0 a1 a2 a3 K
  unfold w4 at this
  rw[this]
  exact h
 ·exact h.elim
def cSz:Ef Tryz.prog:=mkE mixed 67 Tryz.func67 (by decide) (by kernel_rfl) [] [.ptr 4 false] gSz sz_good sz_ok
def cxSu:Cx Tryz.prog:= { rds:= [cRsq],efs:= [cMul],eqs:= [] }
theorem vc_su (a0 a1 a2 a3 v:Int) (K:SV→Mem→Prop):execF cxSu u0 Tryz.f77 64 [.ptr 1 (.lit 0),.int .u64 (.sym v)] (memL [(1,⟨false,w4 a0 a1 a2 a3⟩)]) K=(∃x y,(Ws v 0 0 0 x∧El 17522657719365597833 13107472804851548667
 5164255478447964150 493319470278259999 y)∧∀r,r=mmul x y→K (.ptr 1 (.lit 0)) (memL [(1,⟨false,e4 r⟩),(569,⟨false,.cells [.int .u64 (.lit 17522657719365597833),.int .u64 (.lit 13107472804851548667),.int .u64 (.lit
 5164255478447964150),.int .u64 (.lit 493319470278259999)]⟩)])):=by kernel_rfl
def mont (x:Nat):Nat:=mmul x r2N
def gSu:G0:=fun args l K=>
 match args,l with
 | [.ptr 1 (.lit 0),.int .u64 (.sym v)],[(1,⟨false,.cells [.int .u64 (.sym _),.int .u64 (.sym _),.int .u64 (.sym _),.int .u64 (.sym _)]⟩)]=>
  Wd v∧∀r,r=mont v.toNat→K (.ptr 1 (.lit 0)) (memL [(1,⟨false,e4 r⟩)])
 | _,_=>False
theorem su_good:Good gSu:=by
 constructor
 ·intro args l K K' hk h
  unfold gSu at h ⊢
  split at h
  ·exact ⟨h.1,fun H hH=>hk _ _ (h.2 H hH)⟩
  ·exact h.elim
 ·intro args l K h
  unfold gSu at h
  split at h
  ·exact ⟨_,_,h.2 _ rfl⟩
  ·exact h.elim
theorem ws_low {v:Int} (h:Wd v):Ws v 0 0 0 v.toNat:=by
 unfold Wd at h
 refine ⟨?_,?_,?_,?_,by omega⟩<;>unfold lm<;>omega
theorem su_ok (args:List SV) (l:List (Nat×Reg)) (K:SV→Mem→Prop) (hK:KUp K) (h:gSu args l K):∃U,execF cxSu U Tryz.f77 64 args (memL l) K:=by
 unfold gSu at h
 split at h
 ·rename_i v a0 a1 a2 a3
  refine ⟨u0,?_⟩
  have:=vc_su a0 a1 a2 a3 v K
  unfold w4 at this
  rw[this]
  exact ⟨_,_,⟨ws_low h.1,r2_el⟩,fun r hr=>hK.le (memL_snoc rfl (by simp)) (h.2 r hr)⟩
 ·exact h.elim
def cSu:Ef Tryz.prog:=mkE mixed 77 Tryz.func77 (by decide) (by kernel_rfl) [] [.ptr 4 false,.num] gSu su_good su_ok
theorem one_eq:r2N*rInv*rInv%qN=1:=by decide +kernel
theorem r2_two:r2N*rInv%qN*(rInv%qN)%qN=1:=by decide +kernel
theorem mmul_mod (x y:Nat):mmul x y=(x%qN)*(y%qN)*rInv%qN:=by
 unfold mmul
 conv=>lhs;rw[Nat.mul_mod,Nat.mul_mod x y]
 conv=>rhs;rw[Nat.mul_mod]
theorem mont_mod (x:Nat):mont (x%qN)=mont x:=by
 unfold mont
 rw[mmul_mod,mmul_mod x,Nat.mod_mod]
theorem mont_lt (x:Nat):mont x<qN:=mmul_lt _ _
theorem mont_zero:mont 0=0:=by unfold mont mmul;simp
theorem mont_add (x y:Nat):(mont x+mont y)%qN=mont (x+y):=by
 unfold mont mmul
 rw[←Nat.add_mod,Nat.add_mul,Nat.add_mul]
theorem mont_mul (x y:Nat):mmul (mont x) (mont y)=mont (x*y):=by
 unfold mont mmul
 have e1:x*r2N*rInv%qN*(y*r2N*rInv%qN)*rInv%qN=(x*r2N*rInv)*(y*r2N*rInv)*rInv%qN:=by
  rw[Nat.mul_mod,←Nat.mul_mod (x*r2N*rInv),←Nat.mul_mod]
 rw[e1]
 have e2:(x*r2N*rInv)*(y*r2N*rInv)*rInv=x*y*r2N*rInv*(r2N*rInv*rInv):=by
  simp only[Nat.mul_assoc,Nat.mul_left_comm,Nat.mul_comm]
 rw[e2,Nat.mul_mod,one_eq,Nat.mul_one,Nat.mod_mod]
theorem mont_back (x:Nat):mmul (mont x) 1=x%qN:=by
 unfold mont mmul
 rw[Nat.mul_one,Nat.mul_mod,Nat.mod_mod,←Nat.mul_mod]
 have e2:x*r2N*rInv*rInv=x*(r2N*rInv*rInv):=by simp only[Nat.mul_assoc]
 rw[e2,Nat.mul_mod,one_eq,Nat.mul_one,Nat.mod_mod]
def beN (l:List Int):Nat:=l.foldl (fun a b=>a*256+b.toNat) 0
theorem beN_snoc (l:List Int) (b:Int):beN (l++ [b])=beN l*256+b.toNat:=by unfold beN;rw[List.foldl_append];rfl
theorem beN_take {l:List Int} {i:Nat} (h:i<l.length):beN (l.take (i+1))=beN (l.take i)*256+(l.getD i 0).toNat:=by
 rw[List.take_add_one,List.getElem?_eq_getElem h,Option.toList_some,beN_snoc]
 congr 2
 rw[List.getD_eq_getElem?_getD,List.getElem?_eq_getElem h,Option.getD_some]
def bitsV (a b c d:Int) (i:Nat):Int:=lm (mmul (V4 a b c d).toNat 1) i
def cxBits:Cx Tryz.prog:= { rds:= [],efs:= [cFm],eqs:= [] }
theorem vc_bits (a0 a1 a2 a3:Int) (K:SV→Mem→Prop):(execF cxBits u0 Tryz.f58 64 [.ptr 1 (.lit 0)] (memL [(1,⟨true,w4 a0 a1 a2 a3⟩)]) K)=(∀e,e=a0→∀f,f=a1→∀g,g=a2→∀h,h=a3→∃x,Ws e f g h x∧∀r,r=mmul x
 1→∀a,a=lm r 0→∀b,b=lm r 1→∀c,c=lm r 2→∀d,d=lm r 3→K (.agg [.int .u64 (.sym a),.int .u64 (.sym b),.int .u64 (.sym c),.int .u64 (.sym d)]) (memL [(1,⟨true,w4 a0 a1 a2 a3⟩),(513,⟨false,w4 a b c d⟩),(545,
 ⟨false,e4 r⟩)])):=by kernel_rfl
def rBits:R0:=fun args l=>
 match args,l with
 | [.ptr 1 (.lit 0)],[(1,⟨true,.cells [.int .u64 (.sym a),.int .u64 (.sym b),.int .u64 (.sym c),.int .u64 (.sym d)]⟩)]=>
  some (some (Wd a∧Wd b∧Wd c∧Wd d),.agg [.int .u64 (.sym (bitsV a b c d 0)),.int .u64 (.sym (bitsV a b c d 1)),.int .u64 (.sym (bitsV a b c d 2)),.int .u64 (.sym (bitsV a b c d 3))])
 | _,_=>none
theorem ws_of {a b c d:Int} (ha:Wd a) (hb:Wd b) (hc:Wd c) (hd:Wd d):Ws a b c d (V4 a b c d).toNat:=by
 have h0:=V4_nonneg ha hb hc hd
 have hl:=V4_lt ha hb hc hd
 have hx:V4 a b c d=((V4 a b c d).toNat:Int):=by omega
 obtain ⟨e1,e2,e3,e4⟩:=lm_of ha hb hc hd hx
 exact ⟨e1,e2,e3,e4,by omega⟩
theorem bits_ok (args:List SV) (l:List (Nat×Reg)) (p:Ob) (v:SV) (h:rBits args l=some (p,v)) (hp:p.ok):∃U,execF cxBits U Tryz.f58 64 args (memL l) fun v' _=>v'=v:=by
 refine ⟨u0,?_⟩
 unfold rBits at h
 split at h
 ·rename_i a b c d
  simp only[Option.some.injEq,Prod.mk.injEq]at h
  obtain ⟨rfl,rfl⟩:=h
  obtain ⟨ha,hb,hc,hd⟩:Wd a∧Wd b∧Wd c∧Wd d:=hp
  have:=vc_bits a b c d fun v' _=>v'=SV.agg [.int .u64 (.sym (bitsV a b c d 0)),.int .u64 (.sym (bitsV a b c d 1)),.int .u64 (.sym (bitsV a b c d 2)),.int .u64 (.sym (bitsV a b c d 3))]
  unfold w4 at this
  rw[this]
  rintro _ rfl _ rfl _ rfl _ rfl
  refine ⟨_,ws_of ha hb hc hd,?_⟩
  rintro _ rfl _ rfl _ rfl _ rfl _ rfl
  rfl
 ·cases h
def cBits:Rd Tryz.prog:=mkR mixed 58 Tryz.func58 (by decide) (by kernel_rfl) [] [.ptr 4 true] rBits bits_ok
end Go.Sx
namespace Go.Sx
open Go Go.Proofs
def i64n (n:Nat):SV:= .int .i64 (.sym (n:Nat))
end Go.Sx
namespace Go.Sx
open Go Go.Proofs
set_option maxRecDepth 100000
def ag4 (a b c d:Int):SV:= .agg [.int .u64 (.sym a),.int .u64 (.sym b),.int .u64 (.sym c),.int .u64 (.sym d)]
def pv (l:List Int):Nat→Int
 | 0=>0
 | i+1=>pv l i+l.getD i 0*18446744073709551616 ^ i
structure WI where
 i:Nat
 c:Int
 o:List Int
def liSum (a b:List Int):LI where
 ι:=WI
 keep:= [2,3,4,5,6]
 keepR:= [529]
 F:=fun s=>⟨[(7,.int .u64 (.sym s.c)),(8,i64n s.i)],[(513,⟨false,.ints .u64 a⟩),(521,⟨false,.ints .u64 b⟩),(553,⟨false,.ints .u64 s.o⟩)]⟩
 I:=fun _ s=>s.i≤4∧s.o.length=4∧(∀x∈s.o,Wd x)∧0≤s.c∧s.c≤1∧pv s.o s.i+s.c*18446744073709551616 ^ s.i=pv a s.i+pv b s.i
 μ:=fun s=>4-s.i
def liDif (a b:List Int):LI where
 ι:=WI
 keep:= [2,3,4,5]
 keepR:= [529]
 F:=fun s=>⟨[(6,.int .u64 (.sym s.c)),(7,i64n s.i)],[(513,⟨false,.ints .u64 a⟩),(521,⟨false,.ints .u64 b⟩),(545,⟨false,.ints .u64 s.o⟩)]⟩
 I:=fun _ s=>s.i≤4∧s.o.length=4∧(∀x∈s.o,Wd x)∧0≤s.c∧s.c≤1∧pv s.o s.i=pv a s.i-pv b s.i+s.c*18446744073709551616 ^ s.i
 μ:=fun s=>4-s.i
theorem vc_less (a0 a1 a2 a3 b0 b1 b2 b3:Int) (K:SV→Mem→Prop):(execF cx0 u9 Tryz.f13 64 [ag4 a0 a1 a2 a3,ag4 b0 b1 b2 b3] (memL []) K)=(((a3 !=b3)=true→K (.bool (.sym (decide (a3<b3)))) (memL [(513,⟨false,.cells [.int
 .u64 (.sym a0),.int .u64 (.sym a1),.int .u64 (.sym a2),.int .u64 (.sym a3)]⟩),(521,⟨false,.cells [.int .u64 (.sym b0),.int .u64 (.sym b1),.int .u64 (.sym b2),.int .u64 (.sym b3)]⟩)]))∧((a3 !=b3)=false→((a2 !=b2)=true→K
 (.bool (.sym (decide (a2<b2)))) (memL [(513,⟨false,.cells [.int .u64 (.sym a0),.int .u64 (.sym a1),.int .u64 (.sym a2),.int .u64 (.sym a3)]⟩),(521,⟨false,.cells [.int .u64 (.sym b0),.int .u64 (.sym b1),.int .u64 (.sym b2),.int
 .u64 (.sym b3)]⟩)]))∧((a2 !=b2)=false→((a1 !=b1)=true→K (.bool (.sym (decide (a1<b1)))) (memL [(513,⟨false,.cells [.int .u64 (.sym a0),.int .u64 (.sym a1),.int .u64 (.sym a2),.int .u64 (.sym a3)]⟩),(521,⟨false,.cells
 [.int .u64 (.sym b0),.int .u64 (.sym b1),.int .u64 (.sym b2),.int .u64 (.sym b3)]⟩)]))∧((a1 !=b1)=false→((a0 !=b0)=true→K (.bool (.sym (decide (a0<b0)))) (memL [(513,⟨false,.cells [.int .u64 (.sym a0),.int .u64 (.sym
 a1),.int .u64 (.sym a2),.int .u64 (.sym a3)]⟩),(521,⟨false,.cells [.int .u64 (.sym b0),.int .u64 (.sym b1),.int .u64 (.sym b2),.int .u64 (.sym b3)]⟩)]))∧((a0 !=b0)=false→K (.bool (.lit false)) (memL [(513,⟨false,.cells
 [.int .u64 (.sym a0),.int .u64 (.sym a1),.int .u64 (.sym a2),.int .u64 (.sym a3)]⟩),(521,⟨false,.cells [.int .u64 (.sym b0),.int .u64 (.sym b1),.int .u64 (.sym b2),.int .u64 (.sym b3)]⟩)])))))):=by kernel_rfl
def rLs:R0:=fun args l=>
 match args,l with
 | [.agg [.int .u64 (.sym a0),.int .u64 (.sym a1),.int .u64 (.sym a2),.int .u64 (.sym a3)],.agg [.int .u64 (.sym b0),.int .u64 (.sym b1),.int .u64 (.sym b2),.int .u64 (.sym b3)]],[]=>
  some (some ((Wd a0∧Wd a1∧Wd a2∧Wd a3)∧Wd b0∧Wd b1∧Wd b2∧Wd b3),.bool (.sym (decide (V4 a0 a1 a2 a3<V4 b0 b1 b2 b3))))
 | _,_=>none
theorem ls_ok (args:List SV) (l:List (Nat×Reg)) (p:Ob) (v:SV) (h:rLs args l=some (p,v)) (hp:p.ok):∃U,execF cx0 U Tryz.f13 64 args (memL l) fun v' _=>∀β u,Den β v' u→Den β v u:=by
 refine ⟨u9,?_⟩
 unfold rLs at h
 split at h
 ·rename_i a0 a1 a2 a3 b0 b1 b2 b3
  simp only[Option.some.injEq,Prod.mk.injEq]at h
  obtain ⟨rfl,rfl⟩:=h
  obtain ⟨⟨ha0,ha1,ha2,ha3⟩,hb0,hb1,hb2,hb3⟩:(Wd a0∧Wd a1∧Wd a2∧Wd a3)∧Wd b0∧Wd b1∧Wd b2∧Wd b3:=hp
  unfold Wd at *
  have:=vc_less a0 a1 a2 a3 b0 b1 b2 b3 fun v' _=>∀β u,Den β v' u→Den β (.bool (.sym (decide (V4 a0 a1 a2 a3<V4 b0 b1 b2 b3)))) u
  unfold ag4 at this
  rw[this]
  simp only[bne_iff_ne,ne_eq,bne_eq_false_iff_eq]
  repeat' first
   | exact den_f (by unfold V4;omega)
   | exact den_s (by unfold V4;omega)
   | apply And.intro
   | intro _
 ·cases h
def cLs:Rd Tryz.prog:=mkQ mixed 13 Tryz.func13 (by decide) (by kernel_rfl) [] [.num,.num] rLs ls_ok
theorem vc_pp (K:SV→Mem→Prop):execF cx0 u9 Tryz.f14 64 [] (memL []) K=K (.agg [.int .u64 (.lit 4332616871279656263),.int .u64 (.lit 10917124144477883021),.int .u64 (.lit 13281191951274694749),.int .u64 (.lit
 3486998266802970665)]) (memL [(513,⟨false,.cells [.int .u64 (.lit 4332616871279656263),.int .u64 (.lit 10917124144477883021),.int .u64 (.lit 13281191951274694749),.int .u64 (.lit 3486998266802970665)]⟩)]):=by kernel_rfl
def rPP:R0:=fun args l=>
 match args,l with
 | [],[]=>some (none,.agg [.int .u64 (.lit 4332616871279656263),.int .u64 (.lit 10917124144477883021),.int .u64 (.lit 13281191951274694749),.int .u64 (.lit 3486998266802970665)])
 | _,_=>none
theorem pp_ok (args:List SV) (l:List (Nat×Reg)) (p:Ob) (v:SV) (h:rPP args l=some (p,v)) (_:p.ok):∃U,execF cx0 U Tryz.f14 64 args (memL l) fun v' _=>v'=v:=by
 refine ⟨u9,?_⟩
 unfold rPP at h
 split at h
 ·simp only[Option.some.injEq,Prod.mk.injEq]at h
  obtain ⟨rfl,rfl⟩:=h
  rw[vc_pp]
 ·cases h
def cPP:Rd Tryz.prog:=mkR mixed 14 Tryz.func14 (by decide) (by kernel_rfl) [] [] rPP pp_ok
theorem vc_wsum (a0 a1 a2 a3 b0 b1 b2 b3:Int) (K:SV→Mem→Prop):(execF cx0 (fun n=>if n=0 then .inv (liSum [a0,a1,a2,a3] [b0,b1,b2,b3])else .un 0) Tryz.f136 64 [ag4 a0 a1 a2 a3,ag4 b0 b1 b2 b3] (memL []) K)=((∃f:WI,(WI.i
 f≤4∧List.length (WI.o f)=4∧(∀r:Int,List.Mem r (WI.o f)→Wd r)∧0≤WI.c f∧WI.c f≤1∧pv (WI.o f) (WI.i f)+WI.c f*(18446744073709551616:Int) ^ WI.i f=pv [a0,a1,a2,a3] (WI.i f)+pv [b0,b1,b2,b3] (WI.i f))∧
 (0=WI.c f∧0=((WI.i f:Nat):Int))∧[a0,a1,a2,a3]= [a0,a1,a2,a3]∧[b0,b1,b2,b3]= [b0,b1,b2,b3]∧[(0:Int),(0:Int),(0:Int),(0:Int)]=WI.o f)∧∀a:WI,WI.i a≤4∧List.length (WI.o a)=4∧(∀s:Int,
 List.Mem s (WI.o a)→Wd s)∧0≤WI.c a∧WI.c a≤1∧pv (WI.o a) (WI.i a)+WI.c a*(18446744073709551616:Int) ^ WI.i a=pv [a0,a1,a2,a3] (WI.i a)+pv [b0,b1,b2,b3] (WI.i a)→(decide (((WI.i a:Nat):Int)<4)=true→(0
 ≤((WI.i a:Nat):Int)∧((WI.i a:Nat):Int)<4)∧(Int.toNat ((WI.i a:Nat):Int)*1+1≤List.length [a0,a1,a2,a3]∧∀t:Int,t=List.getD [a0,a1,a2,a3] (Int.toNat ((WI.i a:Nat):Int)*1) (0:Int)→(0≤((WI.i a
 :Nat):Int)∧((WI.i a:Nat):Int)<4)∧(Int.toNat ((WI.i a:Nat):Int)*1+1≤List.length [b0,b1,b2,b3]∧∀u:Int,u=List.getD [b0,b1,b2,b3] (Int.toNat ((WI.i a:Nat):Int)*1) (0:Int)→∀g,g=IntKind.wrap
 IntKind.u64 (t+u)→(0≤((WI.i a:Nat):Int)∧((WI.i a:Nat):Int)<4)∧(Int.toNat ((WI.i a:Nat):Int)*1+1≤List.length [a0,a1,a2,a3]∧∀j:Int,j=List.getD [a0,a1,a2,a3] (Int.toNat ((WI.i a:Nat):Int)*1)
 (0:Int)→(decide (g<j)=true→∀h,h=IntKind.wrap IntKind.u64 (g+WI.c a)→(0≤((WI.i a:Nat):Int)∧((WI.i a:Nat):Int)<4)∧Int.toNat ((WI.i a:Nat):Int)*1<List.length (WI.o a)∧(0≤((WI.i a:Nat):Int)∧
 ((WI.i a:Nat):Int)<4)∧(Int.toNat ((WI.i a:Nat):Int)*1+1≤List.length (List.set (WI.o a) (Int.toNat ((WI.i a:Nat):Int)*1) h)∧∀k:Int,k=List.getD (List.set (WI.o a) (Int.toNat ((WI.i a:Nat):Int)*1) h)
 (Int.toNat ((WI.i a:Nat):Int)*1) (0:Int)→(decide (k<g)=true→∀v,v=IntKind.wrap IntKind.i64 (((WI.i a:Nat):Int)+1)→∃b:WI,(WI.i b≤4∧List.length (WI.o b)=4∧(∀w:Int,List.Mem w (WI.o b)→Wd w)∧0≤
 WI.c b∧WI.c b≤1∧pv (WI.o b) (WI.i b)+WI.c b*(18446744073709551616:Int) ^ WI.i b=pv [a0,a1,a2,a3] (WI.i b)+pv [b0,b1,b2,b3] (WI.i b))∧((1=WI.c b∧v=((WI.i b:Nat):Int))∧[a0,a1,a2,a3]= [a0,a1,a2,a3]∧
 [b0,b1,b2,b3]= [b0,b1,b2,b3]∧List.set (WI.o a) (Int.toNat ((WI.i a:Nat):Int)*1) h=WI.o b)∧4-WI.i b<4-WI.i a)∧(decide (k<g)=false→∀x,x=IntKind.wrap IntKind.i64 (((WI.i a:Nat):Int)+1)→∃c:WI,
 (WI.i c≤4∧List.length (WI.o c)=4∧(∀y:Int,List.Mem y (WI.o c)→Wd y)∧0≤WI.c c∧WI.c c≤1∧pv (WI.o c) (WI.i c)+WI.c c*(18446744073709551616:Int) ^ WI.i c=pv [a0,a1,a2,a3] (WI.i c)+pv [b0,b1,b2,b3] (WI.i
 c))∧((1=WI.c c∧x=((WI.i c:Nat):Int))∧[a0,a1,a2,a3]= [a0,a1,a2,a3]∧[b0,b1,b2,b3]= [b0,b1,b2,b3]∧List.set (WI.o a) (Int.toNat ((WI.i a:Nat):Int)*1) h=WI.o c)∧4-WI.i c<4-WI.i a)))∧(decide (g <
 j)=false→∀i,i=IntKind.wrap IntKind.u64 (g+WI.c a)→(0≤((WI.i a:Nat):Int)∧((WI.i a:Nat):Int)<4)∧Int.toNat ((WI.i a:Nat):Int)*1<List.length (WI.o a)∧(0≤((WI.i a:Nat):Int)∧((WI.i a:Nat):Int) <
 4)∧(Int.toNat ((WI.i a:Nat):Int)*1+1≤List.length (List.set (WI.o a) (Int.toNat ((WI.i a:Nat):Int)*1) i)∧∀l:Int,l=List.getD (List.set (WI.o a) (Int.toNat ((WI.i a:Nat):Int)*1) i) (Int.toNat ((WI.i a:Nat):
 Int)*1) (0:Int)→(decide (l<g)=true→∀z,z=IntKind.wrap IntKind.i64 (((WI.i a:Nat):Int)+1)→∃d:WI,(WI.i d≤4∧List.length (WI.o d)=4∧(∀A:Int,List.Mem A (WI.o d)→Wd A)∧0≤WI.c d∧WI.c d≤1∧pv (WI.o
 d) (WI.i d)+WI.c d*(18446744073709551616:Int) ^ WI.i d=pv [a0,a1,a2,a3] (WI.i d)+pv [b0,b1,b2,b3] (WI.i d))∧((1=WI.c d∧z=((WI.i d:Nat):Int))∧[a0,a1,a2,a3]= [a0,a1,a2,a3]∧[b0,b1,b2,b3]= [b0,b1,
 b2,b3]∧List.set (WI.o a) (Int.toNat ((WI.i a:Nat):Int)*1) i=WI.o d)∧4-WI.i d<4-WI.i a)∧(decide (l<g)=false→∀B,B=IntKind.wrap IntKind.i64 (((WI.i a:Nat):Int)+1)→∃e:WI,(WI.i e≤4∧List.length
 (WI.o e)=4∧(∀C:Int,List.Mem C (WI.o e)→Wd C)∧0≤WI.c e∧WI.c e≤1∧pv (WI.o e) (WI.i e)+WI.c e*(18446744073709551616:Int) ^ WI.i e=pv [a0,a1,a2,a3] (WI.i e)+pv [b0,b1,b2,b3] (WI.i e))∧((0=WI.c e∧B=
 ((WI.i e:Nat):Int))∧[a0,a1,a2,a3]= [a0,a1,a2,a3]∧[b0,b1,b2,b3]= [b0,b1,b2,b3]∧List.set (WI.o a) (Int.toNat ((WI.i a:Nat):Int)*1) i=WI.o e)∧4-WI.i e<4-WI.i a)))))))∧(decide (((WI.i a:Nat):Int) <
 4)=false→(4≤List.length (WI.o a)∧∀m:Int,m=List.getD (WI.o a) 0 (0:Int)→∀o:Int,o=List.getD (WI.o a) 1 (0:Int)→∀p:Int,p=List.getD (WI.o a) 2 (0:Int)→∀q:Int,q=List.getD (WI.o a) 3 (0:Int)→K
 (.tup [.agg [.int .u64 (.sym m),.int .u64 (.sym o),.int .u64 (.sym p),.int .u64 (.sym q)],.bool (.sym (WI.c a==1))]) (memL [(513,⟨false,.ints .u64 [a0,a1,a2,a3]⟩),(521,⟨false,.ints .u64 [b0,b1,b2,b3]⟩),(529,⟨false,
 .cells [.int .u64 (.sym m),.int .u64 (.sym o),.int .u64 (.sym p),.int .u64 (.sym q)]⟩),(553,⟨false,.ints .u64 (WI.o a)⟩)])))):=by kernel_rfl
theorem pv_set (o:List Int) (i:Nat) (y:Int):∀j,j≤i→pv (o.set i y) j=pv o j
 | 0,_=>rfl
 | j+1,h=>by
  unfold pv
  rw[pv_set o i y j (by omega),List.getD_eq_getElem?_getD,List.getD_eq_getElem?_getD,List.getElem?_set_ne (by omega)]
theorem pv_set1 {o:List Int} {i:Nat} (y:Int) (h:i<o.length):pv (o.set i y) (i+1)=pv o i+y*18446744073709551616 ^ i:=by
 show pv (o.set i y) i+(o.set i y).getD i 0*18446744073709551616 ^ i=_
 rw[pv_set o i y i (Nat.le_refl _),List.getD_eq_getElem?_getD,List.getElem?_set_self h]
 rfl
theorem pow_fact {P pO pA pB y c c' ai bi:Int} (e:pO+c*P=pA+pB) (h:y+c'*18446744073709551616=ai+bi+c):
  pO+y*P+c'*(P*18446744073709551616)=pA+ai*P+(pB+bi*P):=by
 have h2:(y+c'*18446744073709551616)*P=(ai+bi+c)*P:=by rw[h]
 rw[Int.add_mul,Int.add_mul,Int.add_mul]at h2
 have h3:c'*(P*18446744073709551616)=c'*18446744073709551616*P:=by rw[Int.mul_comm P,Int.mul_assoc]
 rw[h3]
 omega
theorem wd_set {o:List Int} {i:Nat} {y:Int} (h:∀x∈o,Wd x) (hy:Wd y):∀x∈o.set i y,Wd x:=by
 intro x hx
 rcases List.mem_or_eq_of_mem_set hx with h1 | h1
 ·exact h x h1
 ·rw[h1];exact hy
theorem wd_get {a:List Int} (h:∀x∈a,Wd x) {i:Nat}:Wd (a.getD i 0):=by
 rw[List.getD_eq_getElem?_getD]
 cases e:a[i]? with
 | none=>exact wd0
 | some x=>exact h x (List.mem_of_getElem? e)
theorem sum_step {a b o:List Int} {c c':Int} {i:Nat} {y:Int} (hi:i<o.length) (e:pv o i+c*18446744073709551616 ^ i=pv a i+pv b i) (h:y+c'*18446744073709551616=a.getD i 0+b.getD i 0+c):
  pv (o.set i y) (i+1)+c'*18446744073709551616 ^ (i+1)=pv a (i+1)+pv b (i+1):=by
 rw[pv_set1 y hi,Int.pow_succ]
 exact pow_fact e h
theorem pv4 (a b c d:Int):pv [a,b,c,d] 4=V4 a b c d:=by
 unfold V4
 simp only[pv,List.getD_cons_zero,List.getD_cons_succ]
 omega
theorem wsum_walk (a0 a1 a2 a3 b0 b1 b2 b3:Int) (K:SV→Mem→Prop) (ha:∀x∈[a0,a1,a2,a3],Wd x) (hb:∀x∈[b0,b1,b2,b3],Wd x)
  (hK:∀o0 o1 o2 o3 c m,Wd o0→Wd o1→Wd o2→Wd o3→0≤c→c≤1→V4 o0 o1 o2 o3+c*115792089237316195423570985008687907853269984665640564039457584007913129639936=V4 a0 a1 a2 a3+V4 b0 b1 b2 b3→
   K (.tup [ag4 o0 o1 o2 o3,.bool (.sym (c==1))]) m):
  execF cx0 (fun n=>if n=0 then .inv (liSum [a0,a1,a2,a3] [b0,b1,b2,b3])else .un 0) Tryz.f136 64 [ag4 a0 a1 a2 a3,ag4 b0 b1 b2 b3] (memL []) K:=by
 rw[vc_wsum]
 generalize hA: [a0,a1,a2,a3]=A at ha ⊢
 generalize hB: [b0,b1,b2,b3]=B at hb ⊢
 have lA:A.length=4:=by rw[←hA];rfl
 have lB:B.length=4:=by rw[←hB];rfl
 refine ⟨⟨⟨0,0,[0,0,0,0]⟩,⟨Nat.zero_le _,rfl,?_,Int.le_refl _,by decide,rfl⟩,⟨rfl,rfl⟩,rfl,rfl,rfl⟩,?_⟩
 ·intro x hx
  have hx:x∈[0,0,0,0]:=hx
  simp only[List.mem_cons,List.not_mem_nil,or_false,or_self]at hx
  rw[hx]
  exact wd0
 rintro ⟨i,c,o⟩ ⟨hi,ho,hw,hc0,hc1,e⟩
 dsimp only at hi ho hw hc0 hc1 e ⊢
 have hw:∀x∈o,Wd x:=hw
 refine ⟨fun h=> ?_,fun h=> ?_⟩
 ·simp only[decide_eq_true_eq]at h
  simp only[Int.toNat_natCast,Nat.mul_one]
  have hai:=wd_get ha (i:=i)
  have hbi:=wd_get hb (i:=i)
  have ho':i<o.length:=by omega
  refine ⟨⟨by omega,by omega⟩,by omega,?_⟩
  rintro x4 h4
  refine ⟨⟨by omega,by omega⟩,by omega,?_⟩
  rintro x5 h5 x6 h6
  rw[wu64]at h6
  refine ⟨⟨by omega,by omega⟩,by omega,?_⟩
  rintro x7 h7
  rw[←h4]at hai h7
  rw[←h5]at hbi
  rw[h7]
  unfold Wd at hai hbi
  have fin:∀y c':Int,Wd y→0≤c'→c'≤1→y+c'*18446744073709551616=x4+x5+c→∀x10,x10=IntKind.i64.wrap ((i:Int)+1)→
    ∃w:WI,((w.i≤4∧w.o.length=4∧(∀x,List.Mem x w.o→Wd x)∧0≤w.c∧w.c≤1∧pv w.o w.i+w.c*18446744073709551616 ^ w.i=pv A w.i+pv B w.i)∧(((c'=w.c∧x10=((w.i:Nat):Int))∧True∧True∧o.set i y=w.o)∧4-w.i<4-i)):=by
   intro y c' hy h0 h1 hs x10 h10
   rw[wrap64 (by omega) (by omega)]at h10
   refine ⟨⟨i+1,c',o.set i y⟩,⟨by simp only;omega,by simp only[List.length_set];exact ho,wd_set hw hy,h0,h1,sum_step ho' e (by rw[hs,h4,h5])⟩,⟨⟨rfl,h10.trans (by simp only;omega)⟩,trivial,trivial,rfl⟩,by simp only;omega⟩
  refine ⟨fun hlt=> ?_,fun hlt=> ?_⟩
  all_goals
   simp only[decide_eq_true_eq,decide_eq_false_iff_not]at hlt
   rintro x8 h8
   rw[wu64]at h8
   have hy:Wd x8:=by unfold Wd;omega
   refine ⟨⟨by omega,by omega⟩,by omega,⟨by omega,by omega⟩,by simp only[List.length_set];omega,?_⟩
   rintro x9 h9
   rw[List.getD_eq_getElem?_getD,List.getElem?_set_self ho',Option.getD_some]at h9
   rw[h9]
   refine ⟨fun hl2=> ?_,fun hl2=> ?_⟩
   all_goals
    simp only[decide_eq_true_eq,decide_eq_false_iff_not]at hl2
    refine fin x8 _ hy ?_ ?_ ?_
    all_goals omega
 ·simp only[decide_eq_false_iff_not]at h
  have h4:i=4:=by omega
  refine ⟨by omega,?_⟩
  rintro _ rfl _ rfl _ rfl _ rfl
  rw[h4,←hA,←hB,pv4,pv4]at e
  match o,ho,hw,e with
  | [o0,o1,o2,o3],_,hw,e=>
   rw[pv4]at e
   exact hK o0 o1 o2 o3 c _ (hw _ (by simp)) (hw _ (by simp)) (hw _ (by simp)) (hw _ (by simp)) hc0 hc1 (e.trans rfl)
theorem wds {a b c d:Int} (h:Wd a∧Wd b∧Wd c∧Wd d):∀x∈[a,b,c,d],Wd x:=by
 obtain ⟨h0,h1,h2,h3⟩:=h
 intro x hx
 simp only[List.mem_cons,List.not_mem_nil,or_false]at hx
 rcases hx with rfl | rfl | rfl | rfl<;>assumption
def w256 (x:Int):Nat:=(x%115792089237316195423570985008687907853269984665640564039457584007913129639936).toNat
theorem w256_of {o0 o1 o2 o3 c s:Int} (h0:Wd o0) (h1:Wd o1) (h2:Wd o2) (h3:Wd o3) (e:V4 o0 o1 o2 o3+c*115792089237316195423570985008687907853269984665640564039457584007913129639936=s):
  o0=lm (w256 s) 0∧o1=lm (w256 s) 1∧o2=lm (w256 s) 2∧o3=lm (w256 s) 3:=by
 refine lm_of h0 h1 h2 h3 ?_
 have n0:=V4_nonneg h0 h1 h2 h3
 have n1:=V4_lt h0 h1 h2 h3
 unfold w256
 omega
def rWs:R0:=fun args l=>
 match args,l with
 | [.agg [.int .u64 (.sym a0),.int .u64 (.sym a1),.int .u64 (.sym a2),.int .u64 (.sym a3)],.agg [.int .u64 (.sym b0),.int .u64 (.sym b1),.int .u64 (.sym b2),.int .u64 (.sym b3)]],[]=>
  some (some ((Wd a0∧Wd a1∧Wd a2∧Wd a3)∧Wd b0∧Wd b1∧Wd b2∧Wd b3),
   .tup [ag4 (lm (w256 (V4 a0 a1 a2 a3+V4 b0 b1 b2 b3)) 0) (lm (w256 (V4 a0 a1 a2 a3+V4 b0 b1 b2 b3)) 1) (lm (w256 (V4 a0 a1 a2 a3+V4 b0 b1 b2 b3)) 2) (lm (w256 (V4 a0 a1 a2 a3+V4 b0 b1 b2 b3)) 3),
    .bool (.sym (decide (115792089237316195423570985008687907853269984665640564039457584007913129639936≤V4 a0 a1 a2 a3+V4 b0 b1 b2 b3)))])
 | _,_=>none
theorem ws_ok (args:List SV) (l:List (Nat×Reg)) (p:Ob) (v:SV) (h:rWs args l=some (p,v)) (hp:p.ok):∃U,execF cx0 U Tryz.f136 64 args (memL l) fun v' _=>v'=v:=by
 unfold rWs at h
 split at h
 ·rename_i a0 a1 a2 a3 b0 b1 b2 b3
  simp only[Option.some.injEq,Prod.mk.injEq]at h
  obtain ⟨rfl,rfl⟩:=h
  obtain ⟨ha,hb⟩:(Wd a0∧Wd a1∧Wd a2∧Wd a3)∧Wd b0∧Wd b1∧Wd b2∧Wd b3:=hp
  refine ⟨_,wsum_walk a0 a1 a2 a3 b0 b1 b2 b3 _ (wds ha) (wds hb) fun o0 o1 o2 o3 c m h0 h1 h2 h3 hc0 hc1 e=> ?_⟩
  obtain ⟨e0,e1,e2,e3⟩:=w256_of h0 h1 h2 h3 e
  have n0:=V4_nonneg h0 h1 h2 h3
  have n1:=V4_lt h0 h1 h2 h3
  have hc:(c==1)=decide (115792089237316195423570985008687907853269984665640564039457584007913129639936≤V4 a0 a1 a2 a3+V4 b0 b1 b2 b3):=by
   rw[←e]
   by_cases h:c=1
   ·rw[h]
    simp only[beq_self_eq_true]
    exact (decide_eq_true (by omega)).symm
   ·have hc:c=0:=by omega
    rw[hc]
    exact (decide_eq_false (by omega)).symm
  rw[hc,←e0,←e1,←e2,←e3]
 ·cases h
def cWs:Rd Tryz.prog:=mkR mixed 136 Tryz.func136 (by decide) (by kernel_rfl) [] [.num,.num] rWs ws_ok
theorem vc_wdif (a0 a1 a2 a3 b0 b1 b2 b3:Int) (K:SV→Mem→Prop):(execF cx0 (fun n=>if n=0 then .inv (liDif [a0,a1,a2,a3] [b0,b1,b2,b3])else .un 0) Tryz.f137 64 [ag4 a0 a1 a2 a3,ag4 b0 b1 b2 b3] (memL []) K)=((∃f:WI,(WI.i
 f≤4∧List.length (WI.o f)=4∧(∀q:Int,List.Mem q (WI.o f)→Wd q)∧0≤WI.c f∧WI.c f≤1∧pv (WI.o f) (WI.i f)=pv [a0,a1,a2,a3] (WI.i f)-pv [b0,b1,b2,b3] (WI.i f)+WI.c f*(18446744073709551616:Int) ^ WI.i f)∧
 (0=WI.c f∧0=((WI.i f:Nat):Int))∧[a0,a1,a2,a3]= [a0,a1,a2,a3]∧[b0,b1,b2,b3]= [b0,b1,b2,b3]∧[(0:Int),(0:Int),(0:Int),(0:Int)]=WI.o f)∧∀a:WI,WI.i a≤4∧List.length (WI.o a)=4∧(∀r:Int,
 List.Mem r (WI.o a)→Wd r)∧0≤WI.c a∧WI.c a≤1∧pv (WI.o a) (WI.i a)=pv [a0,a1,a2,a3] (WI.i a)-pv [b0,b1,b2,b3] (WI.i a)+WI.c a*(18446744073709551616:Int) ^ WI.i a→(decide (((WI.i a:Nat):Int)<4)=true→(0
 ≤((WI.i a:Nat):Int)∧((WI.i a:Nat):Int)<4)∧(Int.toNat ((WI.i a:Nat):Int)*1+1≤List.length [a0,a1,a2,a3]∧∀s:Int,s=List.getD [a0,a1,a2,a3] (Int.toNat ((WI.i a:Nat):Int)*1) (0:Int)→(0≤((WI.i a
 :Nat):Int)∧((WI.i a:Nat):Int)<4)∧(Int.toNat ((WI.i a:Nat):Int)*1+1≤List.length [b0,b1,b2,b3]∧∀t:Int,t=List.getD [b0,b1,b2,b3] (Int.toNat ((WI.i a:Nat):Int)*1) (0:Int)→∀g,g=IntKind.wrap
 IntKind.u64 (s-t)→(0≤((WI.i a:Nat):Int)∧((WI.i a:Nat):Int)<4)∧(Int.toNat ((WI.i a:Nat):Int)*1+1≤List.length [a0,a1,a2,a3]∧∀h:Int,h=List.getD [a0,a1,a2,a3] (Int.toNat ((WI.i a:Nat):Int)*1)
 (0:Int)→(0≤((WI.i a:Nat):Int)∧((WI.i a:Nat):Int)<4)∧(Int.toNat ((WI.i a:Nat):Int)*1+1≤List.length [b0,b1,b2,b3]∧∀i:Int,i=List.getD [b0,b1,b2,b3] (Int.toNat ((WI.i a:Nat):Int)*1) (0:Int)→
 (decide (h<i)=true→∀j,j=IntKind.wrap IntKind.u64 (g-WI.c a)→(0≤((WI.i a:Nat):Int)∧((WI.i a:Nat):Int)<4)∧Int.toNat ((WI.i a:Nat):Int)*1<List.length (WI.o a)∧(decide (g<WI.c a)=true→∀u,u=
 IntKind.wrap IntKind.i64 (((WI.i a:Nat):Int)+1)→∃b:WI,(WI.i b≤4∧List.length (WI.o b)=4∧(∀v:Int,List.Mem v (WI.o b)→Wd v)∧0≤WI.c b∧WI.c b≤1∧pv (WI.o b) (WI.i b)=pv [a0,a1,a2,a3] (WI.i b)-pv [b0,
 b1,b2,b3] (WI.i b)+WI.c b*(18446744073709551616:Int) ^ WI.i b)∧((1=WI.c b∧u=((WI.i b:Nat):Int))∧[a0,a1,a2,a3]= [a0,a1,a2,a3]∧[b0,b1,b2,b3]= [b0,b1,b2,b3]∧List.set (WI.o a) (Int.toNat ((WI.i a:Nat)
 :Int)*1) j=WI.o b)∧4-WI.i b<4-WI.i a)∧(decide (g<WI.c a)=false→∀w,w=IntKind.wrap IntKind.i64 (((WI.i a:Nat):Int)+1)→∃c:WI,(WI.i c≤4∧List.length (WI.o c)=4∧(∀x:Int,List.Mem x (WI.o c)→Wd x)
 ∧0≤WI.c c∧WI.c c≤1∧pv (WI.o c) (WI.i c)=pv [a0,a1,a2,a3] (WI.i c)-pv [b0,b1,b2,b3] (WI.i c)+WI.c c*(18446744073709551616:Int) ^ WI.i c)∧((1=WI.c c∧w=((WI.i c:Nat):Int))∧[a0,a1,a2,a3]= [a0,a1,a2,
 a3]∧[b0,b1,b2,b3]= [b0,b1,b2,b3]∧List.set (WI.o a) (Int.toNat ((WI.i a:Nat):Int)*1) j=WI.o c)∧4-WI.i c<4-WI.i a))∧(decide (h<i)=false→∀k,k=IntKind.wrap IntKind.u64 (g-WI.c a)→(0≤((WI.i a:Nat)
 :Int)∧((WI.i a:Nat):Int)<4)∧Int.toNat ((WI.i a:Nat):Int)*1<List.length (WI.o a)∧(decide (g<WI.c a)=true→∀y,y=IntKind.wrap IntKind.i64 (((WI.i a:Nat):Int)+1)→∃d:WI,(WI.i d≤4∧List.length (WI.o
 d)=4∧(∀z:Int,List.Mem z (WI.o d)→Wd z)∧0≤WI.c d∧WI.c d≤1∧pv (WI.o d) (WI.i d)=pv [a0,a1,a2,a3] (WI.i d)-pv [b0,b1,b2,b3] (WI.i d)+WI.c d*(18446744073709551616:Int) ^ WI.i d)∧((1=WI.c d∧y=((WI.i d
 :Nat):Int))∧[a0,a1,a2,a3]= [a0,a1,a2,a3]∧[b0,b1,b2,b3]= [b0,b1,b2,b3]∧List.set (WI.o a) (Int.toNat ((WI.i a:Nat):Int)*1) k=WI.o d)∧4-WI.i d<4-WI.i a)∧(decide (g<WI.c a)=false→∀A,A=
 IntKind.wrap IntKind.i64 (((WI.i a:Nat):Int)+1)→∃e:WI,(WI.i e≤4∧List.length (WI.o e)=4∧(∀B:Int,List.Mem B (WI.o e)→Wd B)∧0≤WI.c e∧WI.c e≤1∧pv (WI.o e) (WI.i e)=pv [a0,a1,a2,a3] (WI.i e)-pv [b0,
 b1,b2,b3] (WI.i e)+WI.c e*(18446744073709551616:Int) ^ WI.i e)∧((0=WI.c e∧A=((WI.i e:Nat):Int))∧[a0,a1,a2,a3]= [a0,a1,a2,a3]∧[b0,b1,b2,b3]= [b0,b1,b2,b3]∧List.set (WI.o a) (Int.toNat ((WI.i a:Nat)
 :Int)*1) k=WI.o e)∧4-WI.i e<4-WI.i a)))))))∧(decide (((WI.i a:Nat):Int)<4)=false→(4≤List.length (WI.o a)∧∀l:Int,l=List.getD (WI.o a) 0 (0:Int)→∀m:Int,m=List.getD (WI.o a) 1 (0:Int)→∀o:
 Int,o=List.getD (WI.o a) 2 (0:Int)→∀p:Int,p=List.getD (WI.o a) 3 (0:Int)→K (.agg [.int .u64 (.sym l),.int .u64 (.sym m),.int .u64 (.sym o),.int .u64 (.sym p)]) (memL [(513,⟨false,.ints .u64 [a0,a1,a2,a3]⟩),(521,
 ⟨false,.ints .u64 [b0,b1,b2,b3]⟩),(529,⟨false,.cells [.int .u64 (.sym l),.int .u64 (.sym m),.int .u64 (.sym o),.int .u64 (.sym p)]⟩),(545,⟨false,.ints .u64 (WI.o a)⟩)])))):=by kernel_rfl
theorem pow_fact2 {P pO pA pB y c c' ai bi:Int} (e:pO=pA-pB+c*P) (h:y=ai-bi-c+c'*18446744073709551616):
  pO+y*P=pA+ai*P-(pB+bi*P)+c'*(P*18446744073709551616):=by
 have h2:y*P=(ai-bi-c+c'*18446744073709551616)*P:=by rw[h]
 rw[Int.add_mul,Int.sub_mul,Int.sub_mul]at h2
 have h3:c'*(P*18446744073709551616)=c'*18446744073709551616*P:=by rw[Int.mul_comm P,Int.mul_assoc]
 rw[h3]
 omega
theorem dif_step {a b o:List Int} {c c':Int} {i:Nat} {y:Int} (hi:i<o.length) (e:pv o i=pv a i-pv b i+c*18446744073709551616 ^ i) (h:y=a.getD i 0-b.getD i 0-c+c'*18446744073709551616):
  pv (o.set i y) (i+1)=pv a (i+1)-pv b (i+1)+c'*18446744073709551616 ^ (i+1):=by
 rw[pv_set1 y hi,Int.pow_succ]
 exact pow_fact2 e h
theorem wdif_walk (a0 a1 a2 a3 b0 b1 b2 b3:Int) (K:SV→Mem→Prop) (ha:∀x∈[a0,a1,a2,a3],Wd x) (hb:∀x∈[b0,b1,b2,b3],Wd x)
  (hK:∀o0 o1 o2 o3 c m,Wd o0→Wd o1→Wd o2→Wd o3→V4 o0 o1 o2 o3=V4 a0 a1 a2 a3-V4 b0 b1 b2 b3+c*115792089237316195423570985008687907853269984665640564039457584007913129639936→
   K (ag4 o0 o1 o2 o3) m):
  execF cx0 (fun n=>if n=0 then .inv (liDif [a0,a1,a2,a3] [b0,b1,b2,b3])else .un 0) Tryz.f137 64 [ag4 a0 a1 a2 a3,ag4 b0 b1 b2 b3] (memL []) K:=by
 rw[vc_wdif]
 generalize hA: [a0,a1,a2,a3]=A at ha ⊢
 generalize hB: [b0,b1,b2,b3]=B at hb ⊢
 have lA:A.length=4:=by rw[←hA];rfl
 have lB:B.length=4:=by rw[←hB];rfl
 refine ⟨⟨⟨0,0,[0,0,0,0]⟩,⟨Nat.zero_le _,rfl,?_,Int.le_refl _,by decide,rfl⟩,⟨rfl,rfl⟩,rfl,rfl,rfl⟩,?_⟩
 ·intro x hx
  have hx:x∈[0,0,0,0]:=hx
  simp only[List.mem_cons,List.not_mem_nil,or_false,or_self]at hx
  rw[hx]
  exact wd0
 rintro ⟨i,c,o⟩ ⟨hi,ho,hw,hc0,hc1,e⟩
 dsimp only at hi ho hw hc0 hc1 e ⊢
 have hw:∀x∈o,Wd x:=hw
 refine ⟨fun h=> ?_,fun h=> ?_⟩
 ·simp only[decide_eq_true_eq]at h
  simp only[Int.toNat_natCast,Nat.mul_one]
  have hai:=wd_get ha (i:=i)
  have hbi:=wd_get hb (i:=i)
  have ho':i<o.length:=by omega
  refine ⟨⟨by omega,by omega⟩,by omega,?_⟩
  rintro x4 h4
  refine ⟨⟨by omega,by omega⟩,by omega,?_⟩
  rintro x5 h5 x6 h6
  rw[wu64]at h6
  refine ⟨⟨by omega,by omega⟩,by omega,?_⟩
  rintro x7 h7
  refine ⟨⟨by omega,by omega⟩,by omega,?_⟩
  rintro x8 h8
  rw[←h4]at hai h7
  rw[←h5]at hbi h8
  rw[h7,h8]
  unfold Wd at hai hbi
  have fin:∀y c':Int,Wd y→0≤c'→c'≤1→y=x4-x5-c+c'*18446744073709551616→∀x10,x10=IntKind.i64.wrap ((i:Int)+1)→
    ∃w:WI,((w.i≤4∧w.o.length=4∧(∀x,List.Mem x w.o→Wd x)∧0≤w.c∧w.c≤1∧pv w.o w.i=pv A w.i-pv B w.i+w.c*18446744073709551616 ^ w.i)∧(((c'=w.c∧x10=((w.i:Nat):Int))∧True∧True∧o.set i y=w.o)∧4-w.i<4-i)):=by
   intro y c' hy h0 h1 hs x10 h10
   rw[wrap64 (by omega) (by omega)]at h10
   refine ⟨⟨i+1,c',o.set i y⟩,⟨by simp only;omega,by simp only[List.length_set];exact ho,wd_set hw hy,h0,h1,dif_step ho' e (by rw[hs,h4,h5])⟩,⟨⟨rfl,h10.trans (by simp only;omega)⟩,trivial,trivial,rfl⟩,by simp only;omega⟩
  refine ⟨fun hlt=> ?_,fun hlt=> ?_⟩
  all_goals
   simp only[decide_eq_true_eq,decide_eq_false_iff_not]at hlt
   rintro x9 h9
   rw[wu64]at h9
   have hy:Wd x9:=by unfold Wd;omega
   refine ⟨⟨by omega,by omega⟩,by omega,?_⟩
   refine ⟨fun hl2=> ?_,fun hl2=> ?_⟩
   all_goals
    simp only[decide_eq_true_eq,decide_eq_false_iff_not]at hl2
    refine fin x9 _ hy ?_ ?_ ?_
    all_goals omega
 ·simp only[decide_eq_false_iff_not]at h
  have h4:i=4:=by omega
  refine ⟨by omega,?_⟩
  rintro _ rfl _ rfl _ rfl _ rfl
  rw[h4,←hA,←hB,pv4,pv4]at e
  match o,ho,hw,e with
  | [o0,o1,o2,o3],_,hw,e=>
   rw[pv4]at e
   exact hK o0 o1 o2 o3 c _ (hw _ (by simp)) (hw _ (by simp)) (hw _ (by simp)) (hw _ (by simp)) (e.trans rfl)
def rWd:R0:=fun args l=>
 match args,l with
 | [.agg [.int .u64 (.sym a0),.int .u64 (.sym a1),.int .u64 (.sym a2),.int .u64 (.sym a3)],.agg [.int .u64 (.sym b0),.int .u64 (.sym b1),.int .u64 (.sym b2),.int .u64 (.sym b3)]],[]=>
  some (some ((Wd a0∧Wd a1∧Wd a2∧Wd a3)∧Wd b0∧Wd b1∧Wd b2∧Wd b3),
   ag4 (lm (w256 (V4 a0 a1 a2 a3-V4 b0 b1 b2 b3)) 0) (lm (w256 (V4 a0 a1 a2 a3-V4 b0 b1 b2 b3)) 1) (lm (w256 (V4 a0 a1 a2 a3-V4 b0 b1 b2 b3)) 2) (lm (w256 (V4 a0 a1 a2 a3-V4 b0 b1 b2 b3)) 3))
 | _,_=>none
theorem wd_ok (args:List SV) (l:List (Nat×Reg)) (p:Ob) (v:SV) (h:rWd args l=some (p,v)) (hp:p.ok):∃U,execF cx0 U Tryz.f137 64 args (memL l) fun v' _=>v'=v:=by
 unfold rWd at h
 split at h
 ·rename_i a0 a1 a2 a3 b0 b1 b2 b3
  simp only[Option.some.injEq,Prod.mk.injEq]at h
  obtain ⟨rfl,rfl⟩:=h
  obtain ⟨ha,hb⟩:(Wd a0∧Wd a1∧Wd a2∧Wd a3)∧Wd b0∧Wd b1∧Wd b2∧Wd b3:=hp
  refine ⟨_,wdif_walk a0 a1 a2 a3 b0 b1 b2 b3 _ (wds ha) (wds hb) fun o0 o1 o2 o3 c m h0 h1 h2 h3 e=> ?_⟩
  obtain ⟨e0,e1,e2,e3⟩:=w256_of (c:= -c) (s:=V4 a0 a1 a2 a3-V4 b0 b1 b2 b3) h0 h1 h2 h3 (by rw[e,Int.neg_mul];omega)
  rw[←e0,←e1,←e2,←e3]
 ·cases h
def cWd:Rd Tryz.prog:=mkR mixed 137 Tryz.func137 (by decide) (by kernel_rfl) [] [.num,.num] rWd wd_ok
def cxAm:Cx Tryz.prog:= { rds:= [cWs,cLs,cWd],efs:= [],eqs:= [] }
theorem vc_am (a0 a1 a2 a3 b0 b1 b2 b3 m0 m1 m2 m3:Int) (K:SV→Mem→Prop):(execF cxAm u9 Tryz.f95 64 [ag4 a0 a1 a2 a3,ag4 b0 b1 b2 b3,ag4 m0 m1 m2 m3] (memL []) K)=(∀a,a=a0→∀b,b=a1→∀c,c=a2→∀d,d=a3→∀e,e
 =b0→∀f,f=b1→∀g,g=b2→∀h,h=b3→((Wd a∧Wd b∧Wd c∧Wd d)∧Wd e∧Wd f∧Wd g∧Wd h)∧(decide (115792089237316195423570985008687907853269984665640564039457584007913129639936≤V4 a b c d+V4 e f g h)=true→∀i,i
 =lm (w256 (V4 a b c d+V4 e f g h)) 0→∀j,j=lm (w256 (V4 a b c d+V4 e f g h)) 1→∀k,k=lm (w256 (V4 a b c d+V4 e f g h)) 2→∀l,l=lm (w256 (V4 a b c d+V4 e f g h)) 3→∀m,m=m0→∀n,n=m1→∀o,o=m2→∀p,p=
 m3→(((Wd i∧Wd j∧Wd k∧Wd l)∧Wd m∧Wd n∧Wd o∧Wd p)∧∀G,G=lm (w256 (V4 i j k l-V4 m n o p)) 0→∀H,H=lm (w256 (V4 i j k l-V4 m n o p)) 1→∀I,I=lm (w256 (V4 i j k l-V4 m n o p)) 2→∀J,J=lm (w256 (V4 i j
 k l-V4 m n o p)) 3→K (.agg [.int .u64 (.sym G),.int .u64 (.sym H),.int .u64 (.sym I),.int .u64 (.sym J)]) (memL [(513,⟨false,.cells [.int .u64 (.sym a0),.int .u64 (.sym a1),.int .u64 (.sym a2),.int .u64 (.sym a3)]⟩),(521,
 ⟨false,.cells [.int .u64 (.sym b0),.int .u64 (.sym b1),.int .u64 (.sym b2),.int .u64 (.sym b3)]⟩),(529,⟨false,.cells [.int .u64 (.sym m0),.int .u64 (.sym m1),.int .u64 (.sym m2),.int .u64 (.sym m3)]⟩),(537,⟨false,.cells [.int
 .u64 (.sym G),.int .u64 (.sym H),.int .u64 (.sym I),.int .u64 (.sym J)]⟩),(593,⟨false,.cells [.int .u64 (.sym (lm (w256 (V4 a b c d+V4 e f g h)) 0)),.int .u64 (.sym (lm (w256 (V4 a b c d+V4 e f g h)) 1)),.int .u64 (.sym (lm
 (w256 (V4 a b c d+V4 e f g h)) 2)),.int .u64 (.sym (lm (w256 (V4 a b c d+V4 e f g h)) 3))]⟩)])))∧(decide (115792089237316195423570985008687907853269984665640564039457584007913129639936≤V4 a b c d+V4 e f g h)=false→∀y,y=
 lm (w256 (V4 a b c d+V4 e f g h)) 0→∀z,z=lm (w256 (V4 a b c d+V4 e f g h)) 1→∀A,A=lm (w256 (V4 a b c d+V4 e f g h)) 2→∀B,B=lm (w256 (V4 a b c d+V4 e f g h)) 3→∀C,C=m0→∀D,D=m1→∀E,E=m2→∀F,F=
 m3→((Wd y∧Wd z∧Wd A∧Wd B)∧Wd C∧Wd D∧Wd E∧Wd F)∧(Bool.not (decide (V4 y z A B<V4 C D E F))=true→∀q,q=lm (w256 (V4 a b c d+V4 e f g h)) 0→∀r,r=lm (w256 (V4 a b c d+V4 e f g h)) 1→∀s,s=lm (w256 (V4
 a b c d+V4 e f g h)) 2→∀t,t=lm (w256 (V4 a b c d+V4 e f g h)) 3→∀u,u=m0→∀v,v=m1→∀w,w=m2→∀x,x=m3→(((Wd q∧Wd r∧Wd s∧Wd t)∧Wd u∧Wd v∧Wd w∧Wd x)∧∀L,L=lm (w256 (V4 q r s t-V4 u v w x)) 0
 →∀M,M=lm (w256 (V4 q r s t-V4 u v w x)) 1→∀N,N=lm (w256 (V4 q r s t-V4 u v w x)) 2→∀O,O=lm (w256 (V4 q r s t-V4 u v w x)) 3→K (.agg [.int .u64 (.sym L),.int .u64 (.sym M),.int .u64 (.sym N),.int .u64 (.sym O)])
 (memL [(513,⟨false,.cells [.int .u64 (.sym a0),.int .u64 (.sym a1),.int .u64 (.sym a2),.int .u64 (.sym a3)]⟩),(521,⟨false,.cells [.int .u64 (.sym b0),.int .u64 (.sym b1),.int .u64 (.sym b2),.int .u64 (.sym b3)]⟩),(529,⟨false,
 .cells [.int .u64 (.sym m0),.int .u64 (.sym m1),.int .u64 (.sym m2),.int .u64 (.sym m3)]⟩),(537,⟨false,.cells [.int .u64 (.sym L),.int .u64 (.sym M),.int .u64 (.sym N),.int .u64 (.sym O)]⟩),(593,⟨false,.cells [.int .u64 (.sym
 (lm (w256 (V4 a b c d+V4 e f g h)) 0)),.int .u64 (.sym (lm (w256 (V4 a b c d+V4 e f g h)) 1)),.int .u64 (.sym (lm (w256 (V4 a b c d+V4 e f g h)) 2)),.int .u64 (.sym (lm (w256 (V4 a b c d+V4 e f g h)) 3))]⟩)])))∧(Bool.not
 (decide (V4 y z A B<V4 C D E F))=false→∀Q,Q=lm (w256 (V4 a b c d+V4 e f g h)) 0→∀R,R=lm (w256 (V4 a b c d+V4 e f g h)) 1→∀S,S=lm (w256 (V4 a b c d+V4 e f g h)) 2→∀T,T=lm (w256 (V4 a b c d+V4 e f g h)) 3
 →K (.agg [.int .u64 (.sym Q),.int .u64 (.sym R),.int .u64 (.sym S),.int .u64 (.sym T)]) (memL [(513,⟨false,.cells [.int .u64 (.sym a0),.int .u64 (.sym a1),.int .u64 (.sym a2),.int .u64 (.sym a3)]⟩),(521,⟨false,.cells [.int .u64
 (.sym b0),.int .u64 (.sym b1),.int .u64 (.sym b2),.int .u64 (.sym b3)]⟩),(529,⟨false,.cells [.int .u64 (.sym m0),.int .u64 (.sym m1),.int .u64 (.sym m2),.int .u64 (.sym m3)]⟩),(537,⟨false,.cells [.int .u64 (.sym Q),.int .u64
 (.sym R),.int .u64 (.sym S),.int .u64 (.sym T)]⟩),(593,⟨false,.cells [.int .u64 (.sym (lm (w256 (V4 a b c d+V4 e f g h)) 0)),.int .u64 (.sym (lm (w256 (V4 a b c d+V4 e f g h)) 1)),.int .u64 (.sym (lm (w256 (V4 a b c d+V4 e f g
 h)) 2)),.int .u64 (.sym (lm (w256 (V4 a b c d+V4 e f g h)) 3))]⟩)])))):=by kernel_rfl
theorem w256_lt (s:Int):w256 s<2 ^ 256:=by unfold w256;omega
theorem w256_V4 (s:Int):V4 (lm (w256 s) 0) (lm (w256 s) 1) (lm (w256 s) 2) (lm (w256 s) 3)=(w256 s:Int):=lm_val (w256_lt s)
theorem am_sub {S M:Int} (h0:M≤S) (h1:S<2*M):S%M=S-M:=by
 rw[←Int.sub_emod_right,Int.emod_eq_of_lt (by omega) (by omega)]
theorem am1 {S M:Int} (hM:M<115792089237316195423570985008687907853269984665640564039457584007913129639936) (h1:S<2*M) (h2:115792089237316195423570985008687907853269984665640564039457584007913129639936≤S):w256 ((w256 S:Int)-M)=(S%M).toNat:=by
 rw[am_sub (by omega) h1]
 unfold w256
 omega
theorem am2 {S M:Int} (h0:0≤S) (h1:S<2*M) (h2:¬115792089237316195423570985008687907853269984665640564039457584007913129639936≤S) (h3:¬(w256 S:Int)<M):w256 ((w256 S:Int)-M)=(S%M).toNat:=by
 have:(w256 S:Int)=S:=by unfold w256;omega
 rw[this]at h3 ⊢
 rw[am_sub (by omega) h1]
 unfold w256
 omega
theorem am3 {S M:Int} (h0:0≤S) (h2:¬115792089237316195423570985008687907853269984665640564039457584007913129639936≤S) (h3:(w256 S:Int)<M):w256 S=(S%M).toNat:=by
 have:(w256 S:Int)=S:=by unfold w256;omega
 rw[this]at h3
 rw[Int.emod_eq_of_lt h0 h3]
 omega
def rAm:R0:=fun args l=>
 match args,l with
 | [.agg [.int .u64 (.sym a0),.int .u64 (.sym a1),.int .u64 (.sym a2),.int .u64 (.sym a3)],.agg [.int .u64 (.sym b0),.int .u64 (.sym b1),.int .u64 (.sym b2),.int .u64 (.sym b3)],.agg [.int .u64 (.sym m0),.int .u64 (.sym m1),.int .u64 (.sym m2),.int .u64 (.sym m3)]],[]=>
  some (some (((Wd a0∧Wd a1∧Wd a2∧Wd a3)∧(Wd b0∧Wd b1∧Wd b2∧Wd b3)∧Wd m0∧Wd m1∧Wd m2∧Wd m3)∧V4 a0 a1 a2 a3<V4 m0 m1 m2 m3∧V4 b0 b1 b2 b3<V4 m0 m1 m2 m3),
   ag4 (lm ((V4 a0 a1 a2 a3+V4 b0 b1 b2 b3)%V4 m0 m1 m2 m3).toNat 0) (lm ((V4 a0 a1 a2 a3+V4 b0 b1 b2 b3)%V4 m0 m1 m2 m3).toNat 1) (lm ((V4 a0 a1 a2 a3+V4 b0 b1 b2 b3)%V4 m0 m1 m2 m3).toNat 2) (lm ((V4 a0 a1 a2 a3+V4 b0 b1 b2 b3)%V4 m0 m1 m2 m3).toNat 3))
 | _,_=>none
theorem am_ok (args:List SV) (l:List (Nat×Reg)) (p:Ob) (v:SV) (h:rAm args l=some (p,v)) (hp:p.ok):∃U,execF cxAm U Tryz.f95 64 args (memL l) fun v' _=>v'=v:=by
 unfold rAm at h
 split at h
 ·rename_i a0 a1 a2 a3 b0 b1 b2 b3 m0 m1 m2 m3
  simp only[Option.some.injEq,Prod.mk.injEq]at h
  obtain ⟨rfl,rfl⟩:=h
  obtain ⟨⟨ha,hb,hm⟩,hA,hB⟩:((Wd a0∧Wd a1∧Wd a2∧Wd a3)∧(Wd b0∧Wd b1∧Wd b2∧Wd b3)∧Wd m0∧Wd m1∧Wd m2∧Wd m3)∧V4 a0 a1 a2 a3<V4 m0 m1 m2 m3∧V4 b0 b1 b2 b3<V4 m0 m1 m2 m3:=hp
  have nA:=V4_nonneg ha.1 ha.2.1 ha.2.2.1 ha.2.2.2
  have nB:=V4_nonneg hb.1 hb.2.1 hb.2.2.1 hb.2.2.2
  have lM:=V4_lt hm.1 hm.2.1 hm.2.2.1 hm.2.2.2
  have W:∀s i,Wd (lm s i):=lm_wd
  refine ⟨u9,?_⟩
  have:=vc_am a0 a1 a2 a3 b0 b1 b2 b3 m0 m1 m2 m3 fun v' _=>v'=ag4 (lm ((V4 a0 a1 a2 a3+V4 b0 b1 b2 b3)%V4 m0 m1 m2 m3).toNat 0) (lm ((V4 a0 a1 a2 a3+V4 b0 b1 b2 b3)%V4 m0 m1 m2 m3).toNat 1) (lm ((V4 a0 a1 a2 a3+V4 b0 b1 b2 b3)%V4 m0 m1 m2 m3).toNat 2) (lm ((V4 a0 a1 a2 a3+V4 b0 b1 b2 b3)%V4 m0 m1 m2 m3).toNat 3)
  unfold ag4 at this
  refine this.mpr ?_
  clear this
  rintro _ rfl _ rfl _ rfl _ rfl _ rfl _ rfl _ rfl _ rfl
  refine ⟨⟨ha,hb⟩,fun h=> ?_,fun h=> ?_⟩
  ·simp only[decide_eq_true_eq]at h
   rintro _ rfl _ rfl _ rfl _ rfl _ rfl _ rfl _ rfl _ rfl
   refine ⟨⟨⟨W _ _,W _ _,W _ _,W _ _⟩,hm⟩,?_⟩
   rintro _ rfl _ rfl _ rfl _ rfl
   rw[w256_V4,am1 lM (by omega) h]
  ·simp only[decide_eq_false_iff_not]at h
   rintro _ rfl _ rfl _ rfl _ rfl _ rfl _ rfl _ rfl _ rfl
   refine ⟨⟨⟨W _ _,W _ _,W _ _,W _ _⟩,hm⟩,fun h2=> ?_,fun h2=> ?_⟩
   ·rw[w256_V4]at h2
    rintro _ rfl _ rfl _ rfl _ rfl _ rfl _ rfl _ rfl _ rfl
    refine ⟨⟨⟨W _ _,W _ _,W _ _,W _ _⟩,hm⟩,?_⟩
    rintro _ rfl _ rfl _ rfl _ rfl
    rw[w256_V4,am2 (by omega) (by omega) h (by simpa using h2)]
   ·rw[w256_V4]at h2
    rintro _ rfl _ rfl _ rfl _ rfl
    rw[am3 (by omega) h (by simpa using h2)]
 ·cases h
def cAm:Rd Tryz.prog:=mkR mixed 95 Tryz.func95 (by decide) (by kernel_rfl) [] [.num,.num,.num] rAm am_ok
def cxAd:Cx Tryz.prog:= { rds:= [cPP,cAm],efs:= [],eqs:= [] }
theorem vc_ad (a0 a1 a2 a3 b0 b1 b2 b3:Int) (K:SV→Mem→Prop):(execF cxAd u9 Tryz.f44 64 [ag4 a0 a1 a2 a3,ag4 b0 b1 b2 b3] (memL []) K)=(∀a,a=a0→∀b,b=a1→∀c,c=a2→∀d,d=a3→∀e,e=b0→∀f,f=b1→∀g,g=
 b2→∀h,h=b3→((((Wd a∧Wd b∧Wd c∧Wd d)∧(Wd e∧Wd f∧Wd g∧Wd h)∧Wd (4332616871279656263:Int)∧Wd (10917124144477883021:Int)∧Wd (13281191951274694749:Int)∧Wd (3486998266802970665:Int))∧V4 a b c d <
 21888242871839275222246405745257275088696311157297823662689037894645226208583∧V4 e f g h<21888242871839275222246405745257275088696311157297823662689037894645226208583)∧∀i,i=lm (Int.toNat ((V4 a b c d+V4 e f g h) %
 21888242871839275222246405745257275088696311157297823662689037894645226208583)) 0→∀j,j=lm (Int.toNat ((V4 a b c d+V4 e f g h)%21888242871839275222246405745257275088696311157297823662689037894645226208583)) 1→∀k,k=lm
 (Int.toNat ((V4 a b c d+V4 e f g h)%21888242871839275222246405745257275088696311157297823662689037894645226208583)) 2→∀l,l=lm (Int.toNat ((V4 a b c d+V4 e f g h) %
 21888242871839275222246405745257275088696311157297823662689037894645226208583)) 3→K (.agg [.int .u64 (.sym i),.int .u64 (.sym j),.int .u64 (.sym k),.int .u64 (.sym l)]) (memL [(513,⟨false,.cells [.int .u64 (.sym a0),.int .u64 (.sym
 a1),.int .u64 (.sym a2),.int .u64 (.sym a3)]⟩),(521,⟨false,.cells [.int .u64 (.sym b0),.int .u64 (.sym b1),.int .u64 (.sym b2),.int .u64 (.sym b3)]⟩),(529,⟨false,.cells [.int .u64 (.sym i),.int .u64 (.sym j),.int .u64 (.sym
 k),.int .u64 (.sym l)]⟩)]))):=by kernel_rfl
def rAd:R0:=fun args l=>
 match args,l with
 | [.agg [.int .u64 (.sym a0),.int .u64 (.sym a1),.int .u64 (.sym a2),.int .u64 (.sym a3)],.agg [.int .u64 (.sym b0),.int .u64 (.sym b1),.int .u64 (.sym b2),.int .u64 (.sym b3)]],[]=>
  some (some (((Wd a0∧Wd a1∧Wd a2∧Wd a3)∧(Wd b0∧Wd b1∧Wd b2∧Wd b3))∧V4 a0 a1 a2 a3<21888242871839275222246405745257275088696311157297823662689037894645226208583∧V4 b0 b1 b2 b3<21888242871839275222246405745257275088696311157297823662689037894645226208583),
   ag4 (lm ((V4 a0 a1 a2 a3+V4 b0 b1 b2 b3)%21888242871839275222246405745257275088696311157297823662689037894645226208583).toNat 0) (lm ((V4 a0 a1 a2 a3+V4 b0 b1 b2 b3)%21888242871839275222246405745257275088696311157297823662689037894645226208583).toNat 1) (lm ((V4 a0 a1 a2 a3+V4 b0 b1 b2 b3)%21888242871839275222246405745257275088696311157297823662689037894645226208583).toNat 2) (lm ((V4 a0 a1 a2 a3+V4 b0 b1 b2 b3)%21888242871839275222246405745257275088696311157297823662689037894645226208583).toNat 3))
 | _,_=>none
theorem ad_ok (args:List SV) (l:List (Nat×Reg)) (p:Ob) (v:SV) (h:rAd args l=some (p,v)) (hp:p.ok):∃U,execF cxAd U Tryz.f44 64 args (memL l) fun v' _=>v'=v:=by
 unfold rAd at h
 split at h
 ·rename_i a0 a1 a2 a3 b0 b1 b2 b3
  simp only[Option.some.injEq,Prod.mk.injEq]at h
  obtain ⟨rfl,rfl⟩:=h
  obtain ⟨⟨ha,hb⟩,hA,hB⟩:((Wd a0∧Wd a1∧Wd a2∧Wd a3)∧(Wd b0∧Wd b1∧Wd b2∧Wd b3))∧V4 a0 a1 a2 a3<21888242871839275222246405745257275088696311157297823662689037894645226208583∧V4 b0 b1 b2 b3<21888242871839275222246405745257275088696311157297823662689037894645226208583:=hp
  refine ⟨u9,?_⟩
  have:=vc_ad a0 a1 a2 a3 b0 b1 b2 b3 fun v' _=>v'=ag4 (lm ((V4 a0 a1 a2 a3+V4 b0 b1 b2 b3)%21888242871839275222246405745257275088696311157297823662689037894645226208583).toNat 0) (lm ((V4 a0 a1 a2 a3+V4 b0 b1 b2 b3)%21888242871839275222246405745257275088696311157297823662689037894645226208583).toNat 1) (lm ((V4 a0 a1 a2 a3+V4 b0 b1 b2 b3)%21888242871839275222246405745257275088696311157297823662689037894645226208583).toNat 2) (lm ((V4 a0 a1 a2 a3+V4 b0 b1 b2 b3)%21888242871839275222246405745257275088696311157297823662689037894645226208583).toNat 3)
  unfold ag4 at this
  refine this.mpr ?_
  clear this
  rintro _ rfl _ rfl _ rfl _ rfl _ rfl _ rfl _ rfl _ rfl
  refine ⟨⟨⟨ha,hb,wdq0,wdq1,wdq2,wdq3⟩,hA,hB⟩,?_⟩
  rintro _ rfl _ rfl _ rfl _ rfl
  rfl
 ·cases h
def cAd:Rd Tryz.prog:=mkR mixed 44 Tryz.func44 (by decide) (by kernel_rfl) [] [.num,.num] rAd ad_ok
def cxMm:Cx Tryz.prog:= { rds:= [cLs,cWd],efs:= [],eqs:= [] }
def dv:List Int→Int
 | []=>0
 | d::l=>d+4294967296*dv l
structure MoI where
 i:Nat
 d:List Int
def lowD (x:Nat) (i:Nat):Int:=((x%4294967296 ^ i:Nat):Int)
def digs (d:List Int) (n:Nat):Prop:=d.length=17∧(∀x∈d,0≤x∧x<4294967296)∧∀j,n≤j→d.getD j 0=0
def liMo (a b:List Int) (x y:Nat):LI where
 ι:=MoI
 keep:= [3,4,5,6,7]
 keepR:= [529,537]
 F:=fun s=>⟨[(8,i64n s.i)],[(513,⟨false,.ints .u64 a⟩),(521,⟨false,.ints .u64 b⟩),(553,⟨false,.ints .u64 s.d⟩)]⟩
 I:=fun _ s=>s.i≤8∧digs s.d (s.i+8)∧dv s.d=lowD x s.i*y
 μ:=fun s=>8-s.i
structure MiI where
 k:Nat
 c:Int
 d:List Int
def liMi (y:Nat):LI where
 ι:=MiI
 keep:= [3,4,5,6,7,8,9]
 keepR:= [513,521,529,537]
 F:=fun s=>⟨[(10,.int .u64 (.sym s.c)),(11,i64n s.k)],[(553,⟨false,.ints .u64 s.d⟩)]⟩
 I:=fun st s=>s.k≤8∧digs s.d ((st.int 8).toNat+8)∧0≤s.c∧s.c<4294967296∧dv s.d+s.c*4294967296 ^ ((st.int 8).toNat+s.k)=dv (st.reg 553)+st.int 9*lowD y s.k*4294967296 ^ (st.int 8).toNat
 μ:=fun s=>8-s.k
structure MsI where
 n:Nat
 r:Nat
def liMs (M:Nat):LI where
 ι:=MsI
 keep:= [5,6,7,14]
 keepR:= [529,537,553]
 F:=fun s=>⟨[(15,.int .i64 (.sym ((s.n:Nat)-1)))],[(601,⟨false,e4 s.r⟩)]⟩
 I:=fun st s=>s.n≤512∧s.r=(dv (st.reg 553)).toNat / 2 ^ s.n%M
 μ:=fun s=>s.n
def uMm (a b:List Int) (X Y M:Nat):Nat→Lp:=fun n=>match n with | 0=> .inv (liMo a b X Y) | 2=> .inv (liMi Y) | 4=> .inv (liMs M) | _=> .un 4
end Go.Sx
namespace Go.Sx
open Go
theorem dv_set:∀(d:List Int) (p:Nat) (v:Int),p<d.length→dv (d.set p v)=dv d+(v-d.getD p 0)*4294967296 ^ p
 | [],_,_,h=>absurd h (Nat.not_lt_zero _)
 | x::l,0,v,_=>by
  show v+4294967296*dv l=x+4294967296*dv l+(v-x)*4294967296 ^ 0
  rw[Int.pow_zero,Int.mul_one]
  omega
 | x::l,p+1,v,h=>by
  have ih:=dv_set l p v (by simpa using h)
  show x+4294967296*dv (l.set p v)=x+4294967296*dv l+(v-l.getD p 0)*4294967296 ^ (p+1)
  rw[ih,Int.pow_succ,Int.mul_add]
  have:(v-l.getD p 0)*(4294967296 ^ p*4294967296)=4294967296*((v-l.getD p 0)*4294967296 ^ p):=by
   rw[←Int.mul_assoc,Int.mul_comm]
  rw[this]
  omega
theorem lowD_succ (x i:Nat):lowD x (i+1)=lowD x i+((x / 4294967296 ^ i%4294967296:Nat):Int)*4294967296 ^ i:=by
 unfold lowD
 rw[Nat.mod_pow_succ,Int.natCast_add,Int.natCast_mul,Int.mul_comm,Int.natCast_pow]
 rfl
theorem lowD_zero (x:Nat):lowD x 0=0:=by
 unfold lowD
 rw[Nat.pow_zero,Nat.mod_one]
 rfl
theorem lowD_all {x:Nat} (h:x<2 ^ 256):lowD x 8=x:=by
 unfold lowD
 rw[Nat.mod_eq_of_lt h]
theorem dv_nonneg:∀ {d:List Int},(∀x∈d,0≤x∧x<4294967296)→0≤dv d
 | [],_=>Int.le_refl _
 | x::l,h=>by
  have:=dv_nonneg (d:=l) fun y hy=>h y (List.mem_cons_of_mem _ hy)
  have:=(h x List.mem_cons_self).1
  show 0≤x+4294967296*dv l
  omega
theorem dv_getD:∀ {d:List Int},(∀x∈d,0≤x∧x<4294967296)→∀p,(d.getD p 0:Int)=(((dv d).toNat / 4294967296 ^ p%4294967296:Nat):Int)
 | [],_,p=>by
  show (0:Int)=((0 / 4294967296 ^ p%4294967296:Nat):Int)
  rw[Nat.zero_div]
  rfl
 | x::l,h,0=>by
  have h0:=dv_nonneg (d:=l) fun y hy=>h y (List.mem_cons_of_mem _ hy)
  have h1:=h x List.mem_cons_self
  show x=(((x+4294967296*dv l).toNat / 4294967296 ^ 0%4294967296:Nat):Int)
  rw[Nat.pow_zero,Nat.div_one]
  omega
 | x::l,h,p+1=>by
  have h0:=dv_nonneg (d:=l) fun y hy=>h y (List.mem_cons_of_mem _ hy)
  have h1:=h x List.mem_cons_self
  have ih:=dv_getD (d:=l) (fun y hy=>h y (List.mem_cons_of_mem _ hy)) p
  show l.getD p 0=(((x+4294967296*dv l).toNat / 4294967296 ^ (p+1)%4294967296:Nat):Int)
  rw[ih,Nat.pow_succ',←Nat.div_div_eq_div_mul]
  have:(x+4294967296*dv l).toNat / 4294967296=(dv l).toNat:=by omega
  rw[this]
theorem half_of {x i:Nat}:(x / 18446744073709551616 ^ (i / 2)%18446744073709551616) / 2 ^ (32*(i%2))%4294967296=x / 4294967296 ^ i%4294967296:=by
 have e:4294967296 ^ i=18446744073709551616 ^ (i / 2)*2 ^ (32*(i%2)):=by
  rw[show (18446744073709551616:Nat)=2 ^ 64 by decide,show (4294967296:Nat)=2 ^ 32 by decide,←Nat.pow_mul,←Nat.pow_mul,←Nat.pow_add]
  congr 1
  omega
 rw[e,←Nat.div_div_eq_div_mul]
 generalize x / 18446744073709551616 ^ (i / 2)=q
 rcases Nat.mod_two_eq_zero_or_one i with h | h
 ·rw[h];simp only[Nat.mul_zero,Nat.pow_zero,Nat.div_one];omega
 ·rw[h];simp only[Nat.mul_one,Nat.reducePow];omega
theorem prod_eq {d t P dvi:Int}:dvi+(t%4294967296-d)*P+(t / 4294967296)*(P*4294967296)=dvi+(t-d)*P:=by
 have h:(t / 4294967296)*(P*4294967296)=(t / 4294967296*4294967296)*P:=by rw[Int.mul_comm P,Int.mul_assoc]
 rw[h,Int.add_assoc,←Int.add_mul]
 congr 2
 omega
theorem bit_of {D n:Nat}:(D / 4294967296 ^ (n / 32)%4294967296) / 2 ^ (n%32)%2=D / 2 ^ n%2:=by
 have e:2 ^ n=4294967296 ^ (n / 32)*2 ^ (n%32):=by
  rw[show (4294967296:Nat)=2 ^ 32 by decide,←Nat.pow_mul,←Nat.pow_add]
  congr 1
  omega
 rw[e,←Nat.div_div_eq_div_mul]
 generalize D / 4294967296 ^ (n / 32)=q
 have hs:n%32<32:=Nat.mod_lt _ (by decide)
 generalize n%32=s at hs
 have e2:(4294967296:Nat)=2 ^ s*(2*2 ^ (31-s)):=by
  rw[←Nat.pow_succ',←Nat.pow_add,show s+(31-s+1)=32 by omega]
 rw[e2,Nat.mod_mul_right_div_self,Nat.mod_mul_right_mod]
theorem rest_succ {D n M:Nat} (hM:0<M):(2*(D / 2 ^ (n+1)%M)+D / 2 ^ n%2)%M=D / 2 ^ n%M:=by
 have e:D / 2 ^ n=2*(D / 2 ^ (n+1))+D / 2 ^ n%2:=by
  rw[Nat.pow_succ,←Nat.div_div_eq_div_mul]
  omega
 conv=>rhs;rw[e]
 rw[Nat.add_mod,Nat.mul_mod,Nat.mod_mod,←Nat.mul_mod,←Nat.add_mod]
end Go.Sx
namespace Go.Sx
open Go
set_option maxRecDepth 100000
theorem elW_getD (X:Nat):∀k,k<4→[lm X 0,lm X 1,lm X 2,lm X 3].getD k 0=lm X k
 | 0,_=>rfl
 | 1,_=>rfl
 | 2,_=>rfl
 | 3,_=>rfl
 | k+4,h=>absurd h (by omega)
theorem dig_of {X i:Nat} (hi:i<8) {x2 x3 x4 x5 x6 x7:Int} (h2:x2=IntKind.i64.wrap (Int.tdiv (i:Int) 2)) (h3:x3= [lm X 0,lm X 1,lm X 2,lm X 3].getD (x2.toNat*1) 0) (h4:x4=Int.tmod (i:Int) 2) (h5:x5=IntKind.i64.wrap (32*x4))
  (h6:x6=shrv .u64 x3 x5.toNat) (h7:x7=Int.tmod x6 4294967296):(0≤x2∧x2<4)∧0≤x5∧x7=((X / 4294967296 ^ i%4294967296:Nat):Int):=by
 rw[Int.tdiv_eq_ediv_of_nonneg (by omega),wrap64 (by omega) (by omega)]at h2
 rw[Int.tmod_eq_emod_of_nonneg (by omega)]at h4
 rw[wrap64 (by omega) (by omega)]at h5
 have e2:x2.toNat=i / 2:=by omega
 have e5:x5.toNat=32*(i%2):=by omega
 rw[e2,Nat.mul_one,elW_getD X _ (by omega)]at h3
 rw[e5,h3,shr64 (lm_wd _ _).1 (by omega)]at h6
 have e6:x6=((X / 18446744073709551616 ^ (i / 2)%18446744073709551616 / 2 ^ (32*(i%2)):Nat):Int):=by
  rw[h6]
  unfold lm
  rw[Int.natCast_ediv,Int.natCast_pow]
  rfl
 rw[Int.tmod_eq_emod_of_nonneg (by rw[e6];exact Int.natCast_nonneg _)]at h7
 refine ⟨by omega,by omega,?_⟩
 rw[h7,e6,←half_of]
 rfl
theorem mul_lt32 {x y:Int} (hx:0≤x∧x<4294967296) (hy:0≤y∧y<4294967296):0≤x*y∧x*y≤18446744065119617025:=by
 refine ⟨Int.mul_nonneg hx.1 hy.1,?_⟩
 have h1:x*y≤4294967295*y:=Int.mul_le_mul_of_nonneg_right (by omega) hy.1
 omega
theorem digs_get {d:List Int} {n:Nat} (h:digs d n) (j:Nat):0≤d.getD j 0∧d.getD j 0<4294967296:=by
 rw[List.getD_eq_getElem?_getD]
 cases e:d[j]? with
 | none=>exact ⟨Int.le_refl _,by decide⟩
 | some x=>exact h.2.1 x (List.mem_of_getElem? e)
theorem digs_set {d:List Int} {n p:Nat} {v:Int} (h:digs d n) (hv:0≤v∧v<4294967296) (hp:p<n):digs (d.set p v) n:=by
 refine ⟨by rw[List.length_set];exact h.1,?_,?_⟩
 ·intro x hx
  rcases List.mem_or_eq_of_mem_set hx with h1 | h1
  ·exact h.2.1 x h1
  ·rw[h1];exact hv
 ·intro j hj
  rw[List.getD_eq_getElem?_getD,List.getElem?_set_ne (by omega),←List.getD_eq_getElem?_getD]
  exact h.2.2 j hj
theorem in_step {d:List Int} {i k n Y:Nat} {c x y x16 x17 x18 x19 x20 x21 x22 x23 D0:Int} (hd:digs d n) (hn:n=i+8) (hi:i<8) (hk:k<8) (hc0:0≤c) (hc1:c<4294967296) (hx:0≤x∧x<4294967296)
  (hy:y=((Y / 4294967296 ^ k%4294967296:Nat):Int)) (e:dv d+c*4294967296 ^ (i+k)=D0+x*lowD Y k*4294967296 ^ i)
  (h16:x16=IntKind.i64.wrap ((i:Int)+(k:Int))) (h17:x17=d.getD (x16.toNat*1) 0) (h18:x18=IntKind.u64.wrap (x*y)) (h19:x19=IntKind.u64.wrap (x17+x18)) (h20:x20=IntKind.u64.wrap (x19+c))
  (h21:x21=IntKind.i64.wrap ((i:Int)+(k:Int))) (h22:x22=Int.tmod x20 4294967296) (h23:x23=IntKind.u64.wrap (Int.tdiv x20 4294967296)):
  (0≤x16∧x16<17)∧x16.toNat*1+1≤d.length∧(0≤x21∧x21<17)∧x21.toNat*1<d.length∧digs (d.set (x21.toNat*1) x22) n∧0≤x23∧x23<4294967296∧
   dv (d.set (x21.toNat*1) x22)+x23*4294967296 ^ (i+(k+1))=D0+x*lowD Y (k+1)*4294967296 ^ i:=by
 rw[wrap64 (by omega) (by omega)]at h16 h21
 have e16:x16.toNat=i+k:=by omega
 have e21:x21.toNat=i+k:=by omega
 rw[e16,Nat.mul_one]at h17
 have g:=digs_get hd (i+k)
 rw[←h17]at g
 have hy':0≤y∧y<4294967296:=by rw[hy];omega
 obtain ⟨p0,p1⟩:=mul_lt32 hx hy'
 rw[wu64]at h18 h19 h20 h23
 generalize hp:x*y=p at h18 p0 p1
 have t:x20=x17+p+c:=by omega
 rw[Int.tmod_eq_emod_of_nonneg (by omega)]at h22
 rw[Int.tdiv_eq_ediv_of_nonneg (by omega)]at h23
 have h23':x23=x20 / 4294967296:=by omega
 have hl:=hd.1
 have h22b:0≤x22∧x22<4294967296:=by omega
 refine ⟨by omega,by omega,by omega,by omega,?_,by omega,by omega,?_⟩
 ·rw[e21,Nat.mul_one]
  exact digs_set hd h22b (by omega)
 ·rw[e21,Nat.mul_one,dv_set d (i+k) x22 (by omega),←h17,h22,h23',show i+(k+1)=i+k+1 by omega,Int.pow_succ,prod_eq,lowD_succ,←hy,t,
   show x17+p+c-x17=p+c by omega,←hp,Int.mul_add,Int.add_mul,Int.add_mul]
  have e3:x*(y*4294967296 ^ k)*4294967296 ^ i=x*y*4294967296 ^ (i+k):=by
   rw[Int.pow_add,←Int.mul_assoc x y,Int.mul_assoc (x*y),Int.mul_comm (4294967296 ^ k)]
  rw[e3]
  omega
theorem shl1 (x:Int):shlv .u64 x 1=x*2%18446744073709551616:=by
 unfold shlv
 rw[wu64,show min 1 IntKind.u64.bits=1 by simp[IntKind.bits],Int.pow_one]
theorem shr63 {x:Int} (h:0≤x):shrv .u64 x 63=x / 9223372036854775808:=by
 rw[shr64 h (by omega)]
 rfl
theorem dbl_eq {a0 a1 a2 a3 b y0 y1 y2 y3 h:Int} (w0:Wd a0) (w1:Wd a1) (w2:Wd a2) (w3:Wd a3) (hb:0≤b∧b<2) (e0:y0=(a0*2%18446744073709551616+b)%18446744073709551616)
  (e1:y1=(a1*2%18446744073709551616+a0 / 9223372036854775808)%18446744073709551616) (e2:y2=(a2*2%18446744073709551616+a1 / 9223372036854775808)%18446744073709551616)
  (e3:y3=(a3*2%18446744073709551616+a2 / 9223372036854775808)%18446744073709551616) (eh:h=a3 / 9223372036854775808):
  (Wd y0∧Wd y1∧Wd y2∧Wd y3)∧(h=0∨h=1)∧V4 y0 y1 y2 y3+h*115792089237316195423570985008687907853269984665640564039457584007913129639936=2*V4 a0 a1 a2 a3+b:=by
 unfold Wd at *
 have f0:y0=a0*2+b-(a0 / 9223372036854775808)*18446744073709551616:=by omega
 have f1:y1=a1*2+a0 / 9223372036854775808-(a1 / 9223372036854775808)*18446744073709551616:=by omega
 have f2:y2=a2*2+a1 / 9223372036854775808-(a2 / 9223372036854775808)*18446744073709551616:=by omega
 have f3:y3=a3*2+a2 / 9223372036854775808-(a3 / 9223372036854775808)*18446744073709551616:=by omega
 refine ⟨by omega,by omega,?_⟩
 rw[f0,f1,f2,f3,eh]
 unfold V4
 generalize a0 / 9223372036854775808=c0
 generalize a1 / 9223372036854775808=c1
 generalize a2 / 9223372036854775808=c2
 generalize a3 / 9223372036854775808=c3
 omega
theorem ms_step {D M p r:Nat} {y0 y1 y2 y3 h:Int} (hM:0<M) (hlM:M<115792089237316195423570985008687907853269984665640564039457584007913129639936) (hr:r=D / 2 ^ (p+1)%M) (w:Wd y0∧Wd y1∧Wd y2∧Wd y3) (hh:h=0∨h=1)
  (e:V4 y0 y1 y2 y3+h*115792089237316195423570985008687907853269984665640564039457584007913129639936=2*(r:Int)+((D / 2 ^ p%2:Nat):Int)):
  ((h=1∨¬V4 y0 y1 y2 y3<M)→w256 (V4 y0 y1 y2 y3-M)=D / 2 ^ p%M)∧(h=0→V4 y0 y1 y2 y3<M→y0=lm (D / 2 ^ p%M) 0∧y1=lm (D / 2 ^ p%M) 1∧y2=lm (D / 2 ^ p%M) 2∧y3=lm (D / 2 ^ p%M) 3):=by
 obtain ⟨w0,w1,w2,w3⟩:=w
 have rs:=rest_succ (D:=D) (n:=p) hM
 have hlt:r<M:=by rw[hr];exact Nat.mod_lt _ hM
 rw[←hr]at rs
 rw[←rs]
 have hb:D / 2 ^ p%2<2:=Nat.mod_lt _ (by decide)
 generalize D / 2 ^ p%2=b at *
 have n0:=V4_nonneg w0 w1 w2 w3
 have n1:=V4_lt w0 w1 w2 w3
 constructor
 ·intro hc
  have hge:M≤2*r+b:=by omega
  rw[Nat.mod_eq_sub_mod hge,Nat.mod_eq_of_lt (by omega)]
  unfold w256
  omega
 ·intro h0 hc
  have:2*r+b<M:=by omega
  rw[Nat.mod_eq_of_lt this]
  exact lm_of w0 w1 w2 w3 (by omega)
theorem ms_zero {D M n x:Nat} (h:D=x) (hlt:x<2 ^ n):0=D / 2 ^ n%M:=by
 rw[h,Nat.div_eq_of_lt hlt,Nat.zero_mod]
theorem bit_fetch {d:List Int} {n:Nat} (hd:∀x∈d,0≤x∧x<4294967296) (hn:1≤n) (hn2:n≤512) {x42 x43 x44 x45 x46:Int} (h42:x42=IntKind.i64.wrap (Int.tdiv ((n:Int)-1) 32)) (h43:x43=d.getD (x42.toNat*1) 0)
  (h44:x44=Int.tmod ((n:Int)-1) 32) (h45:x45=shrv .u64 x43 x44.toNat) (h46:x46=Int.tmod x45 2):
  (0≤x42∧x42<17)∧0≤x44∧x46=(((dv d).toNat / 2 ^ (n-1)%2:Nat):Int):=by
 rw[Int.tdiv_eq_ediv_of_nonneg (by omega),wrap64 (by omega) (by omega)]at h42
 rw[Int.tmod_eq_emod_of_nonneg (by omega)]at h44
 have e42:x42.toNat=(n-1) / 32:=by omega
 have e44:x44.toNat=(n-1)%32:=by omega
 rw[e42,Nat.mul_one,dv_getD hd]at h43
 rw[e44,h43,shr64 (Int.natCast_nonneg _) (by omega)]at h45
 have e45:x45=((((dv d).toNat / 4294967296 ^ ((n-1) / 32)%4294967296) / 2 ^ ((n-1)%32):Nat):Int):=by
  rw[h45,Int.natCast_ediv,Int.natCast_pow]
  rfl
 rw[Int.tmod_eq_emod_of_nonneg (by rw[e45];exact Int.natCast_nonneg _)]at h46
 refine ⟨by omega,by omega,?_⟩
 rw[h46,e45,←bit_of]
 rfl
end Go.Sx
namespace Go.Sx
open Go Go.Proofs
set_option maxRecDepth 100000
theorem vc_mm (X Y M:Nat) (a0 a1 a2 a3 b0 b1 b2 b3 m0 m1 m2 m3:Int) (K:SV→Mem→Prop):(execF cxMm (uMm [a0,a1,a2,a3] [b0,b1,b2,b3] X Y M) Tryz.f94 64 [ag4 a0 a1 a2 a3,ag4 b0 b1 b2 b3,ag4 m0 m1 m2 m3] (memL []) K)=((∃l:MoI,
 (MoI.i l≤8∧digs (MoI.d l) (MoI.i l+8)∧dv (MoI.d l)=lowD X (MoI.i l)*((Y:Nat):Int))∧0=((MoI.i l:Nat):Int)∧(m0=m0∧m1=m1∧m2=m2∧m3=m3)∧[a0,a1,a2,a3]= [a0,a1,a2,a3]∧[b0,b1,b2,b3]= [b0,b1,
 b2,b3]∧[(0:Int),(0:Int),(0:Int),(0:Int),(0:Int),(0:Int),(0:Int),(0:Int),(0:Int),(0:Int),(0:Int),(0:Int),(0:Int),(0:Int),(0:Int),(0:Int),(0:Int)]=MoI.d l)∧∀a:MoI,MoI.i a≤8∧
 digs (MoI.d a) (MoI.i a+8)∧dv (MoI.d a)=lowD X (MoI.i a)*((Y:Nat):Int)→(decide (((MoI.i a:Nat):Int)<8)=true→∀C,C=IntKind.wrap IntKind.i64 (Int.tdiv ((MoI.i a:Nat):Int) (2:Int))→(0≤C∧C<4)∧
 (Int.toNat C*1+1≤List.length [a0,a1,a2,a3]∧∀x3:Int,x3=List.getD [a0,a1,a2,a3] (Int.toNat C*1) (0:Int)→∀x4,x4=Int.tmod ((MoI.i a:Nat):Int) (2:Int)→∀x5,x5=IntKind.wrap IntKind.i64 (32*x4)→(0≤x5
 ∧∀x6,x6=shrv .u64 x3 (Int.toNat x5)→∀f,f=Int.tmod x6 (4294967296:Int)→((∃e:MiI,(MiI.k e≤8∧digs (MiI.d e) (Int.toNat ((MoI.i a:Nat):Int)+8)∧0≤MiI.c e∧MiI.c e<4294967296∧dv (MiI.d e)+MiI.c e *
 (4294967296:Int) ^ (Int.toNat ((MoI.i a:Nat):Int)+MiI.k e)=dv (MoI.d a)+f*lowD Y (MiI.k e)*(4294967296:Int) ^ Int.toNat ((MoI.i a:Nat):Int))∧(((MoI.i a:Nat):Int)=((MoI.i a:Nat):Int)∧f=f∧0=MiI.c e∧
 0=((MiI.k e:Nat):Int))∧[a0,a1,a2,a3]= [a0,a1,a2,a3]∧[b0,b1,b2,b3]= [b0,b1,b2,b3]∧(m0=m0∧m1=m1∧m2=m2∧m3=m3)∧MoI.d a=MiI.d e)∧∀c:MiI,MiI.k c≤8∧digs (MiI.d c) (Int.toNat ((MoI.i a:Nat):
 Int)+8)∧0≤MiI.c c∧MiI.c c<4294967296∧dv (MiI.d c)+MiI.c c*(4294967296:Int) ^ (Int.toNat ((MoI.i a:Nat):Int)+MiI.k c)=dv (MoI.d a)+f*lowD Y (MiI.k c)*(4294967296:Int) ^ Int.toNat ((MoI.i a:Nat):Int)→
 (decide (((MiI.k c:Nat):Int)<8)=true→∀D,D=IntKind.wrap IntKind.i64 (Int.tdiv ((MiI.k c:Nat):Int) (2:Int))→(0≤D∧D<4)∧(Int.toNat D*1+1≤List.length [b0,b1,b2,b3]∧∀an:Int,an=List.getD [b0,b1,b2,
 b3] (Int.toNat D*1) (0:Int)→∀ao,ao=Int.tmod ((MiI.k c:Nat):Int) (2:Int)→∀ac,ac=IntKind.wrap IntKind.i64 (32*ao)→(0≤ac∧∀ap,ap=shrv .u64 an (Int.toNat ac)→∀aq,aq=Int.tmod ap (4294967296:Int)→∀E,E
 =IntKind.wrap IntKind.i64 (((MoI.i a:Nat):Int)+((MiI.k c:Nat):Int))→(0≤E∧E<17)∧(Int.toNat E*1+1≤List.length (MiI.d c)∧∀ar:Int,ar=List.getD (MiI.d c) (Int.toNat E*1) (0:Int)→∀au,au=IntKind.wrap
 IntKind.u64 (f*aq)→∀av,av=IntKind.wrap IntKind.u64 (ar+au)→∀ad,ad=IntKind.wrap IntKind.u64 (av+MiI.c c)→∀F,F=IntKind.wrap IntKind.i64 (((MoI.i a:Nat):Int)+((MiI.k c:Nat):Int))→∀aw,aw=Int.tmod ad
 (4294967296:Int)→(0≤F∧F<17)∧(Int.toNat F*1<List.length (MiI.d c)∧∀ax,ax=IntKind.wrap IntKind.u64 (Int.tdiv ad (4294967296:Int))→∀ay,ay=IntKind.wrap IntKind.i64 (((MiI.k c:Nat):Int)+1)→∃d:MiI,(MiI.k
 d≤8∧digs (MiI.d d) (Int.toNat ((MoI.i a:Nat):Int)+8)∧0≤MiI.c d∧MiI.c d<4294967296∧dv (MiI.d d)+MiI.c d*(4294967296:Int) ^ (Int.toNat ((MoI.i a:Nat):Int)+MiI.k d)=dv (MoI.d a)+f*lowD Y (MiI.k d) *
 (4294967296:Int) ^ Int.toNat ((MoI.i a:Nat):Int))∧((((MoI.i a:Nat):Int)=((MoI.i a:Nat):Int)∧f=f∧ax=MiI.c d∧ay=((MiI.k d:Nat):Int))∧[a0,a1,a2,a3]= [a0,a1,a2,a3]∧[b0,b1,b2,b3]= [b0,b1,b2,
 b3]∧(m0=m0∧m1=m1∧m2=m2∧m3=m3)∧List.set (MiI.d c) (Int.toNat F*1) aw=MiI.d d)∧8-MiI.k d<8-MiI.k c)))))∧(decide (((MiI.k c:Nat):Int)<8)=false→∀G,G=IntKind.wrap IntKind.i64 (((MoI.i a:Nat):
 Int)+8)→(0≤G∧G<17)∧(Int.toNat G*1<List.length (MiI.d c)∧∀az,az=IntKind.wrap IntKind.i64 (((MoI.i a:Nat):Int)+1)→∃j:MoI,(MoI.i j≤8∧digs (MoI.d j) (MoI.i j+8)∧dv (MoI.d j)=lowD X (MoI.i j)*((Y:
 Nat):Int))∧(az=((MoI.i j:Nat):Int)∧(m0=m0∧m1=m1∧m2=m2∧m3=m3)∧[a0,a1,a2,a3]= [a0,a1,a2,a3]∧[b0,b1,b2,b3]= [b0,b1,b2,b3]∧List.set (MiI.d c) (Int.toNat G*1) (MiI.c c)=MoI.d j)∧8-MoI.i j <
 8-MoI.i a))))))∧(decide (((MoI.i a:Nat):Int)<8)=false→((∃k:MsI,(MsI.n k≤512∧MsI.r k=Int.toNat (dv (MoI.d a)) / (2:Nat) ^ MsI.n k%M)∧511=((MsI.n k:Nat):Int)-1∧(m0=m0∧m1=m1∧m2=m2∧m3=m3)∧
 MoI.d a=MoI.d a∧0=lm (MsI.r k) 0∧0=lm (MsI.r k) 1∧0=lm (MsI.r k) 2∧0=lm (MsI.r k) 3)∧∀b:MsI,MsI.n b≤512∧MsI.r b=Int.toNat (dv (MoI.d a)) / (2:Nat) ^ MsI.n b%M→(decide (((MsI.n b:Nat):Int)-1≥0)=
 true→∀ae,ae=shrv .u64 (lm (MsI.r b) 3) 63→∀a4,a4=shlv .u64 (lm (MsI.r b) 3) 1→∀a5,a5=shrv .u64 (lm (MsI.r b) 2) 63→∀H,H=IntKind.wrap IntKind.u64 (a4+a5)→∀a6,a6=shlv .u64 (lm (MsI.r b) 2) 1→∀a7,a7=shrv
 .u64 (lm (MsI.r b) 1) 63→∀I,I=IntKind.wrap IntKind.u64 (a6+a7)→∀a8,a8=shlv .u64 (lm (MsI.r b) 1) 1→∀a9,a9=shrv .u64 (lm (MsI.r b) 0) 63→∀J,J=IntKind.wrap IntKind.u64 (a8+a9)→∀ba,ba=shlv .u64 (lm (MsI.r b)
 0) 1→∀L,L=IntKind.wrap IntKind.i64 (Int.tdiv (((MsI.n b:Nat):Int)-1) (32:Int))→(0≤L∧L<17)∧(Int.toNat L*1+1≤List.length (MoI.d a)∧∀bb:Int,bb=List.getD (MoI.d a) (Int.toNat L*1) (0:Int)→∀af,af=
 Int.tmod (((MsI.n b:Nat):Int)-1) (32:Int)→(0≤af∧∀bc,bc=shrv .u64 bb (Int.toNat af)→∀bd,bd=Int.tmod bc (2:Int)→∀N,N=IntKind.wrap IntKind.u64 (ba+bd)→((ae==1)=true→∀m,m=N→∀n,n=J→∀o,o=
 I→∀p,p=H→∀q,q=m0→∀r,r=m1→∀s,s=m2→∀t,t=m3→(((Wd m∧Wd n∧Wd o∧Wd p)∧Wd q∧Wd r∧Wd s∧Wd t)∧∀be,be=lm (w256 (V4 m n o p-V4 q r s t)) 0→∀bf,bf=lm (w256 (V4 m n o p-V4 q r s t)) 1→∀
 bg,bg=lm (w256 (V4 m n o p-V4 q r s t)) 2→∀bh,bh=lm (w256 (V4 m n o p-V4 q r s t)) 3→∀bi,bi=IntKind.wrap IntKind.i64 (((MsI.n b:Nat):Int)-1-1)→∃g:MsI,(MsI.n g≤512∧MsI.r g=Int.toNat (dv (MoI.d a)) / (2
 :Nat) ^ MsI.n g%M)∧(bi=((MsI.n g:Nat):Int)-1∧(m0=m0∧m1=m1∧m2=m2∧m3=m3)∧MoI.d a=MoI.d a∧be=lm (MsI.r g) 0∧bf=lm (MsI.r g) 1∧bg=lm (MsI.r g) 2∧bh=lm (MsI.r g) 3)∧MsI.n g<MsI.n b))∧((ae
 ==1)=false→∀O,O=N→∀Q,Q=J→∀R,R=I→∀S,S=H→∀T,T=m0→∀V,V=m1→∀Z,Z=m2→∀aa,aa=m3→((Wd O∧Wd Q∧Wd R∧Wd S)∧Wd T∧Wd V∧Wd Z∧Wd aa)∧(Bool.not (decide (V4 O Q R S<V4 T V Z aa))=true
 →∀u,u=N→∀v,v=J→∀w,w=I→∀x,x=H→∀y,y=m0→∀z,z=m1→∀A,A=m2→∀B,B=m3→(((Wd u∧Wd v∧Wd w∧Wd x)∧Wd y∧Wd z∧Wd A∧Wd B)∧∀bj,bj=lm (w256 (V4 u v w x-V4 y z A B)) 0→∀bk,bk=lm
 (w256 (V4 u v w x-V4 y z A B)) 1→∀bl,bl=lm (w256 (V4 u v w x-V4 y z A B)) 2→∀bm,bm=lm (w256 (V4 u v w x-V4 y z A B)) 3→∀bn,bn=IntKind.wrap IntKind.i64 (((MsI.n b:Nat):Int)-1-1)→∃h:MsI,(MsI.n h≤512∧
 MsI.r h=Int.toNat (dv (MoI.d a)) / (2:Nat) ^ MsI.n h%M)∧(bn=((MsI.n h:Nat):Int)-1∧(m0=m0∧m1=m1∧m2=m2∧m3=m3)∧MoI.d a=MoI.d a∧bj=lm (MsI.r h) 0∧bk=lm (MsI.r h) 1∧bl=lm (MsI.r h) 2∧bm=lm
 (MsI.r h) 3)∧MsI.n h<MsI.n b))∧(Bool.not (decide (V4 O Q R S<V4 T V Z aa))=false→∀bo,bo=IntKind.wrap IntKind.i64 (((MsI.n b:Nat):Int)-1-1)→∃i:MsI,(MsI.n i≤512∧MsI.r i=Int.toNat (dv (MoI.d a)) / (2:Nat)
 ^ MsI.n i%M)∧(bo=((MsI.n i:Nat):Int)-1∧(m0=m0∧m1=m1∧m2=m2∧m3=m3)∧MoI.d a=MoI.d a∧N=lm (MsI.r i) 0∧J=lm (MsI.r i) 1∧I=lm (MsI.r i) 2∧H=lm (MsI.r i) 3)∧MsI.n i<MsI.n b)))))∧(decide
 (((MsI.n b:Nat):Int)-1≥0)=false→∀ag,ag=lm (MsI.r b) 0→∀ah,ah=lm (MsI.r b) 1→∀ai,ai=lm (MsI.r b) 2→∀aj,aj=lm (MsI.r b) 3→K (.agg [.int .u64 (.sym ag),.int .u64 (.sym ah),.int .u64 (.sym ai),.int .u64
 (.sym aj)]) (memL [(529,⟨false,.cells [.int .u64 (.sym m0),.int .u64 (.sym m1),.int .u64 (.sym m2),.int .u64 (.sym m3)]⟩),(537,⟨false,.cells [.int .u64 (.sym ag),.int .u64 (.sym ah),.int .u64 (.sym ai),.int .u64 (.sym aj)]⟩),
 (553,⟨false,.ints .u64 (MoI.d a)⟩),(601,⟨false,.cells [.int .u64 (.sym (lm (MsI.r b) 0)),.int .u64 (.sym (lm (MsI.r b) 1)),.int .u64 (.sym (lm (MsI.r b) 2)),.int .u64 (.sym (lm (MsI.r b) 3))]⟩)]))))):=by kernel_rfl
theorem mm_walk (X Y M:Nat) (a0 a1 a2 a3 b0 b1 b2 b3 m0 m1 m2 m3:Int) (K:SV→Mem→Prop) (ha:Ws a0 a1 a2 a3 X) (hb:Ws b0 b1 b2 b3 Y) (hm:Ws m0 m1 m2 m3 M) (hM:0<M)
  (hK:∀r m',r=X*Y%M→K (ag4 (lm r 0) (lm r 1) (lm r 2) (lm r 3)) m'):
  execF cxMm (uMm [a0,a1,a2,a3] [b0,b1,b2,b3] X Y M) Tryz.f94 64 [ag4 a0 a1 a2 a3,ag4 b0 b1 b2 b3,ag4 m0 m1 m2 m3] (memL []) K:=by
 obtain ⟨rfl,rfl,rfl,rfl,hX⟩:=ha
 obtain ⟨rfl,rfl,rfl,rfl,hY⟩:=hb
 rw[vc_mm]
 refine ⟨⟨⟨0,List.replicate 17 0⟩,?_⟩,?_⟩
 ·refine ⟨⟨Nat.zero_le _,⟨by simp,?_,?_⟩,?_⟩,rfl,⟨rfl,rfl,rfl,rfl⟩,rfl,rfl,rfl⟩
  ·intro x hx
   rw[List.eq_of_mem_replicate hx]
   decide
  ·intro j _
   rw[List.getD_eq_getElem?_getD,List.getElem?_replicate]
   split<;>rfl
  ·rw[lowD_zero,Int.zero_mul]
   rfl
 rintro ⟨i,d⟩ ⟨hi,hd,e⟩
 dsimp only at hi hd e ⊢
 refine ⟨fun h=> ?_,fun h=> ?_⟩
 ·simp only[decide_eq_true_eq]at h
  have hi':i<8:=by omega
  rintro x2 h2
  have q2:=h2
  rw[Int.tdiv_eq_ediv_of_nonneg (by omega),wrap64 (by omega) (by omega)]at q2
  refine ⟨by omega,by simp only[List.length_cons,List.length_nil];omega,?_⟩
  rintro x3 h3 x4 h4 x5 h5
  have q:=fun x6 x7 h6 h7=>dig_of (X:=X) hi' (x6:=x6) (x7:=x7) h2 h3 h4 h5 h6 h7
  refine ⟨(q _ _ rfl rfl).2.1,?_⟩
  rintro x6 h6 x7 h7
  have hx7:=(q _ _ h6 h7).2.2
  refine ⟨⟨⟨0,0,d⟩,?_⟩,?_⟩
  ·refine ⟨⟨Nat.zero_le _,by rw[Int.toNat_natCast];exact hd,Int.le_refl _,by show (0:Int)<4294967296;decide,by rw[lowD_zero];simp⟩,⟨rfl,rfl,rfl,rfl⟩,rfl,rfl,⟨rfl,rfl,rfl,rfl⟩,rfl⟩
  rintro ⟨k,c,d'⟩ ⟨hk,hd',hc0,hc1,e'⟩
  dsimp only at hk hd' hc0 hc1 e' ⊢
  rw[Int.toNat_natCast]at hd' e'
  simp only[Int.toNat_natCast]
  refine ⟨fun h=> ?_,fun h=> ?_⟩
  ·simp only[decide_eq_true_eq]at h
   have hk':k<8:=by omega
   rintro x10 h10
   have q10:=h10
   rw[Int.tdiv_eq_ediv_of_nonneg (by omega),wrap64 (by omega) (by omega)]at q10
   refine ⟨by omega,by simp only[List.length_cons,List.length_nil];omega,?_⟩
   rintro x11 h11 x12 h12 x13 h13
   have r:=fun x14 x15 h14 h15=>dig_of (X:=Y) hk' (x6:=x14) (x7:=x15) h10 h11 h12 h13 h14 h15
   refine ⟨(r _ _ rfl rfl).2.1,?_⟩
   rintro x14 h14 x15 h15
   have hx15:=(r _ _ h14 h15).2.2
   have st:=fun x16 x17 x18 x19 x20 x21 x22 x23 h16 h17 h18 h19 h20 h21 h22 h23=>in_step (x16:=x16) (x17:=x17) (x18:=x18) (x19:=x19) (x20:=x20) (x21:=x21) (x22:=x22) (x23:=x23) hd' rfl hi' hk' hc0 hc1 (by rw[hx7];omega) hx15 e' h16 h17 h18 h19 h20 h21 h22 h23
   rintro x16 h16
   have s0:=st x16 _ _ _ _ x16 _ _ h16 rfl rfl rfl rfl h16 rfl rfl
   refine ⟨s0.1,s0.2.1,?_⟩
   rintro x17 h17 x18 h18 x19 h19 x20 h20 x21 h21 x22 h22
   have s1:=st x16 x17 x18 x19 x20 x21 x22 _ h16 h17 h18 h19 h20 h21 h22 rfl
   refine ⟨s1.2.2.1,s1.2.2.2.1,?_⟩
   rintro x23 h23 x24 h24
   rw[wrap64 (by omega) (by omega)]at h24
   obtain ⟨_,_,_,_,u1,u2,u3,u4⟩:=st x16 x17 x18 x19 x20 x21 x22 x23 h16 h17 h18 h19 h20 h21 h22 h23
   refine ⟨⟨k+1,x23,d'.set (x21.toNat*1) x22⟩,⟨hk',u1,u2,u3,u4⟩,?_⟩
   repeat' apply And.intro
   all_goals first | rfl | trivial | (simp only;omega)
  ·simp only[decide_eq_false_iff_not]at h
   have hk':k=8:=by omega
   rintro x26 h26
   rw[wrap64 (by omega) (by omega)]at h26
   have e26:x26.toNat=i+8:=by omega
   have hl:=hd'.1
   refine ⟨by omega,by omega,?_⟩
   rintro x27 h27
   rw[wrap64 (by omega) (by omega)]at h27
   rw[e26,Nat.mul_one]
   refine ⟨⟨i+1,d'.set (i+8) c⟩,⟨hi',?_,?_⟩,?_⟩
   ·exact digs_set ⟨hd'.1,hd'.2.1,fun j hj=>hd'.2.2 j (by simp only at hj;omega)⟩ ⟨hc0,hc1⟩ (by simp only;omega)
   ·show dv (d'.set (i+8) c)=lowD X (i+1)*(Y:Int)
    rw[dv_set d' (i+8) c (by omega),hd'.2.2 (i+8) (Nat.le_refl _),Int.sub_zero,lowD_succ,←hx7,Int.add_mul,←e]
    rw[hk',lowD_all hY]at e'
    rw[e',Int.mul_right_comm]
   ·repeat' apply And.intro
    all_goals first | rfl | trivial | (simp only;omega)
 ·simp only[decide_eq_false_iff_not]at h
  have h8:i=8:=by omega
  rw[h8,lowD_all hX]at e
  have hD:(dv d).toNat=X*Y:=by rw[e,←Int.natCast_mul,Int.toNat_natCast]
  have hlt:X*Y<2 ^ 512:=Nat.lt_of_lt_of_le (Nat.mul_lt_mul'' hX hY) (by decide +kernel)
  have mw:=hm.wd
  have mv:=hm.val
  have ml:=hm.lt
  refine ⟨⟨⟨512,0⟩,⟨Nat.le_refl _,?_⟩,rfl,⟨rfl,rfl,rfl,rfl⟩,rfl,?_⟩,?_⟩
  ·dsimp only
   rw[hD,Nat.div_eq_of_lt hlt,Nat.zero_mod]
  ·have z0:∀i,lm 0 i=0:=fun i=>by
    unfold lm
    simp
   simp only[z0]
   exact ⟨trivial,trivial,trivial,trivial⟩
  rintro ⟨n,r⟩ ⟨hn,hr⟩
  dsimp only at hn hr ⊢
  refine ⟨fun h=> ?_,fun h=> ?_⟩
  ·simp only[decide_eq_true_eq]at h
   have hr':=hr
   obtain ⟨p,rfl⟩:∃p,n=p+1:=⟨n-1,by omega⟩
   have hlt:r<M:=by rw[hr];exact Nat.mod_lt _ hM
   rintro x31 h31 x32 h32 x33 h33 x34 h34 x35 h35 x36 h36 x37 h37 x38 h38 x39 h39 x40 h40 x41 h41 x42 h42
   have bf:=fun x43 x44 x45 x46=>bit_fetch (x43:=x43) (x44:=x44) (x45:=x45) (x46:=x46) hd.2.1 (by omega) hn h42
   have b0:=(bf _ _ _ _ rfl rfl rfl rfl).1
   refine ⟨b0,by have:=hd.1;omega,?_⟩
   rintro x43 h43 x44 h44
   refine ⟨(bf x43 x44 _ _ h43 h44 rfl rfl).2.1,?_⟩
   rintro x45 h45 x46 h46 x47 h47
   obtain ⟨_,_,e46⟩:=bf x43 x44 x45 x46 h43 h44 h45 h46
   rw[shl1]at h32 h35 h38 h41
   rw[shr63 (lm_wd _ _).1]at h31 h33 h36 h39
   rw[wu64]at h34 h37 h40 h47
   subst h32 h33 h35 h36 h38 h39 h41
   have hb:0≤x46∧x46<2:=by rw[e46];omega
   obtain ⟨yw,yh,ye⟩:=dbl_eq (lm_wd _ _) (lm_wd _ _) (lm_wd _ _) (lm_wd _ _) hb h47 h40 h37 h34 h31
   rw[lm_val (by omega),e46,Nat.add_sub_cancel,hD]at ye
   rw[hD]at hr
   obtain ⟨s1,s2⟩:=ms_step hM ml hr yw yh ye
   have mval:V4 m0 m1 m2 m3=(M:Int):=mv
   have fin:∀z0 z1 z2 z3 x:Int,x=IntKind.i64.wrap (((((p+1:Nat)):Int)-1)-1)→z0=lm (X*Y / 2 ^ p%M) 0→z1=lm (X*Y / 2 ^ p%M) 1→z2=lm (X*Y / 2 ^ p%M) 2→z3=lm (X*Y / 2 ^ p%M) 3→
     ∃w:MsI,(w.n≤512∧w.r=(dv d).toNat / 2 ^ w.n%M)∧((x=((w.n:Nat):Int)-1∧(m0=m0∧m1=m1∧m2=m2∧m3=m3)∧d=d∧z0=lm w.r 0∧z1=lm w.r 1∧z2=lm w.r 2∧z3=lm w.r 3)∧w.n<p+1):=by
    intro z0 z1 z2 z3 x hx e0 e1 e2 e3
    rw[wrap64 (by omega) (by omega)]at hx
    exact ⟨⟨p,X*Y / 2 ^ p%M⟩,⟨by simp only;omega,by simp only;rw[hD]⟩,⟨by simp only;omega,⟨rfl,rfl,rfl,rfl⟩,rfl,e0,e1,e2,e3⟩,by simp only;omega⟩
   refine ⟨fun hh=> ?_,fun hh=> ?_⟩
   ·rintro x48 h48 x49 h49 x50 h50 x51 h51 x52 h52 x53 h53 x54 h54 x55 h55
    rw[h48,h49,h50,h51,h52,h53,h54,h55]
    refine ⟨⟨yw,mw⟩,?_⟩
    rintro x56 h56 x57 h57 x58 h58 x59 h59 x60 h60
    have q:=s1 (.inl (by simpa using hh))
    rw[mval,q]at h56 h57 h58 h59
    exact fin _ _ _ _ _ h60 h56 h57 h58 h59
   ·rintro x48 h48 x49 h49 x50 h50 x51 h51 x52 h52 x53 h53 x54 h54 x55 h55
    rw[h48,h49,h50,h51,h52,h53,h54,h55]
    refine ⟨⟨yw,mw⟩,fun hq=> ?_,fun hq=> ?_⟩
    ·rintro x48 h48 x49 h49 x50 h50 x51 h51 x52 h52 x53 h53 x54 h54 x55 h55
     rw[h48,h49,h50,h51,h52,h53,h54,h55]
     refine ⟨⟨yw,mw⟩,?_⟩
     rintro x56 h56 x57 h57 x58 h58 x59 h59 x60 h60
     have q:=s1 (.inr (by rw[←mval];simpa using hq))
     rw[mval,q]at h56 h57 h58 h59
     exact fin _ _ _ _ _ h60 h56 h57 h58 h59
    ·rintro x60 h60
     have h0:x31=0:=by
      have:¬x31=1:=by simpa using hh
      omega
     obtain ⟨e0,e1,e2,e3⟩:=s2 h0 (by rw[←mval];simpa using hq)
     exact fin _ _ _ _ _ h60 e0 e1 e2 e3
  ·simp only[decide_eq_false_iff_not]at h
   have hn0:n=0:=by omega
   rintro _ rfl _ rfl _ rfl _ rfl
   exact hK r _ (by rw[hr,hn0,hD,Nat.pow_zero,Nat.div_one])
theorem Ws.of {a b c d:Int} (h:Wd a∧Wd b∧Wd c∧Wd d):Ws a b c d (V4 a b c d).toNat:=by
 obtain ⟨h0,h1,h2,h3⟩:=h
 have n0:=V4_nonneg h0 h1 h2 h3
 have n1:=V4_lt h0 h1 h2 h3
 obtain ⟨e0,e1,e2,e3⟩:=lm_of h0 h1 h2 h3 (x:=(V4 a b c d).toNat) (by omega)
 exact ⟨e0,e1,e2,e3,by omega⟩
def rMm:R0:=fun args l=>
 match args,l with
 | [.agg [.int .u64 (.sym a0),.int .u64 (.sym a1),.int .u64 (.sym a2),.int .u64 (.sym a3)],.agg [.int .u64 (.sym b0),.int .u64 (.sym b1),.int .u64 (.sym b2),.int .u64 (.sym b3)],.agg [.int .u64 (.sym m0),.int .u64 (.sym m1),.int .u64 (.sym m2),.int .u64 (.sym m3)]],[]=>
  some (some (((Wd a0∧Wd a1∧Wd a2∧Wd a3)∧(Wd b0∧Wd b1∧Wd b2∧Wd b3)∧(Wd m0∧Wd m1∧Wd m2∧Wd m3))∧0<V4 m0 m1 m2 m3),
   ag4 (lm ((V4 a0 a1 a2 a3).toNat*(V4 b0 b1 b2 b3).toNat%(V4 m0 m1 m2 m3).toNat) 0) (lm ((V4 a0 a1 a2 a3).toNat*(V4 b0 b1 b2 b3).toNat%(V4 m0 m1 m2 m3).toNat) 1) (lm ((V4 a0 a1 a2 a3).toNat*(V4 b0 b1 b2 b3).toNat%(V4 m0 m1 m2 m3).toNat) 2) (lm ((V4 a0 a1 a2 a3).toNat*(V4 b0 b1 b2 b3).toNat%(V4 m0 m1 m2 m3).toNat) 3))
 | _,_=>none
theorem mm_ok (args:List SV) (l:List (Nat×Reg)) (p:Ob) (v:SV) (h:rMm args l=some (p,v)) (hp:p.ok):∃U,execF cxMm U Tryz.f94 64 args (memL l) fun v' _=>v'=v:=by
 unfold rMm at h
 split at h
 ·rename_i a0 a1 a2 a3 b0 b1 b2 b3 m0 m1 m2 m3
  simp only[Option.some.injEq,Prod.mk.injEq]at h
  obtain ⟨rfl,rfl⟩:=h
  obtain ⟨⟨ha,hb,hm⟩,hM⟩:((Wd a0∧Wd a1∧Wd a2∧Wd a3)∧(Wd b0∧Wd b1∧Wd b2∧Wd b3)∧(Wd m0∧Wd m1∧Wd m2∧Wd m3))∧0<V4 m0 m1 m2 m3:=hp
  refine ⟨_,mm_walk _ _ _ a0 a1 a2 a3 b0 b1 b2 b3 m0 m1 m2 m3 _ (Ws.of ha) (Ws.of hb) (Ws.of hm) (by omega) fun r m' hr=> ?_⟩
  rw[hr]
 ·cases h
def cMm:Rd Tryz.prog:=mkR mixed 94 Tryz.func94 (by decide) (by kernel_rfl) [] [.num,.num,.num] rMm mm_ok
def cxMl:Cx Tryz.prog:= { rds:= [cPP,cMm],efs:= [],eqs:= [] }
theorem vc_ml (a0 a1 a2 a3 b0 b1 b2 b3:Int) (K:SV→Mem→Prop):(execF cxMl u9 Tryz.f43 64 [ag4 a0 a1 a2 a3,ag4 b0 b1 b2 b3] (memL []) K)=(∀a,a=a0→∀b,b=a1→∀c,c=a2→∀d,d=a3→∀e,e=b0→∀f,f=b1→∀g,g=
 b2→∀h,h=b3→((((Wd a∧Wd b∧Wd c∧Wd d)∧(Wd e∧Wd f∧Wd g∧Wd h)∧Wd (4332616871279656263:Int)∧Wd (10917124144477883021:Int)∧Wd (13281191951274694749:Int)∧Wd (3486998266802970665:Int))∧(0:Int) <
 (21888242871839275222246405745257275088696311157297823662689037894645226208583:Int))∧∀i,i=lm (Int.toNat (V4 a b c d)*Int.toNat (V4 e f g h)%21888242871839275222246405745257275088696311157297823662689037894645226208583) 0→∀j,
 j=lm (Int.toNat (V4 a b c d)*Int.toNat (V4 e f g h)%21888242871839275222246405745257275088696311157297823662689037894645226208583) 1→∀k,k=lm (Int.toNat (V4 a b c d)*Int.toNat (V4 e f g h) %
 21888242871839275222246405745257275088696311157297823662689037894645226208583) 2→∀l,l=lm (Int.toNat (V4 a b c d)*Int.toNat (V4 e f g h)%21888242871839275222246405745257275088696311157297823662689037894645226208583) 3→K (.agg
 [.int .u64 (.sym i),.int .u64 (.sym j),.int .u64 (.sym k),.int .u64 (.sym l)]) (memL [(513,⟨false,.cells [.int .u64 (.sym a0),.int .u64 (.sym a1),.int .u64 (.sym a2),.int .u64 (.sym a3)]⟩),(521,⟨false,.cells [.int .u64 (.sym
 b0),.int .u64 (.sym b1),.int .u64 (.sym b2),.int .u64 (.sym b3)]⟩),(529,⟨false,.cells [.int .u64 (.sym i),.int .u64 (.sym j),.int .u64 (.sym k),.int .u64 (.sym l)]⟩)]))):=by kernel_rfl
def rMl:R0:=fun args l=>
 match args,l with
 | [.agg [.int .u64 (.sym a0),.int .u64 (.sym a1),.int .u64 (.sym a2),.int .u64 (.sym a3)],.agg [.int .u64 (.sym b0),.int .u64 (.sym b1),.int .u64 (.sym b2),.int .u64 (.sym b3)]],[]=>
  some (some ((Wd a0∧Wd a1∧Wd a2∧Wd a3)∧(Wd b0∧Wd b1∧Wd b2∧Wd b3)),
   ag4 (lm ((V4 a0 a1 a2 a3).toNat*(V4 b0 b1 b2 b3).toNat%21888242871839275222246405745257275088696311157297823662689037894645226208583) 0) (lm ((V4 a0 a1 a2 a3).toNat*(V4 b0 b1 b2 b3).toNat%21888242871839275222246405745257275088696311157297823662689037894645226208583) 1) (lm ((V4 a0 a1 a2 a3).toNat*(V4 b0 b1 b2 b3).toNat%21888242871839275222246405745257275088696311157297823662689037894645226208583) 2) (lm ((V4 a0 a1 a2 a3).toNat*(V4 b0 b1 b2 b3).toNat%21888242871839275222246405745257275088696311157297823662689037894645226208583) 3))
 | _,_=>none
theorem ml_ok (args:List SV) (l:List (Nat×Reg)) (p:Ob) (v:SV) (h:rMl args l=some (p,v)) (hp:p.ok):∃U,execF cxMl U Tryz.f43 64 args (memL l) fun v' _=>v'=v:=by
 unfold rMl at h
 split at h
 ·rename_i a0 a1 a2 a3 b0 b1 b2 b3
  simp only[Option.some.injEq,Prod.mk.injEq]at h
  obtain ⟨rfl,rfl⟩:=h
  obtain ⟨ha,hb⟩:(Wd a0∧Wd a1∧Wd a2∧Wd a3)∧(Wd b0∧Wd b1∧Wd b2∧Wd b3):=hp
  refine ⟨u9,?_⟩
  have:=vc_ml a0 a1 a2 a3 b0 b1 b2 b3 fun v' _=>v'=ag4 (lm ((V4 a0 a1 a2 a3).toNat*(V4 b0 b1 b2 b3).toNat%21888242871839275222246405745257275088696311157297823662689037894645226208583) 0) (lm ((V4 a0 a1 a2 a3).toNat*(V4 b0 b1 b2 b3).toNat%21888242871839275222246405745257275088696311157297823662689037894645226208583) 1) (lm ((V4 a0 a1 a2 a3).toNat*(V4 b0 b1 b2 b3).toNat%21888242871839275222246405745257275088696311157297823662689037894645226208583) 2) (lm ((V4 a0 a1 a2 a3).toNat*(V4 b0 b1 b2 b3).toNat%21888242871839275222246405745257275088696311157297823662689037894645226208583) 3)
  unfold ag4 at this
  refine this.mpr ?_
  clear this
  rintro _ rfl _ rfl _ rfl _ rfl _ rfl _ rfl _ rfl _ rfl
  refine ⟨⟨⟨ha,hb,wdq0,wdq1,wdq2,wdq3⟩,by decide⟩,?_⟩
  rintro _ rfl _ rfl _ rfl _ rfl
  rfl
 ·cases h
def cMl:Rd Tryz.prog:=mkR mixed 43 Tryz.func43 (by decide) (by kernel_rfl) [] [.num,.num] rMl ml_ok
def mulC (a0 a1 a2 a3 b0 b1 b2 b3:Int) (K:Int→Int→Int→Int→Prop):Prop:=∃x y,(Ws a0 a1 a2 a3 x∧El b0 b1 b2 b3 y)∧∀r,r=mmul x y→∀y0 y1 y2 y3,El y0 y1 y2 y3 r→K y0 y1 y2 y3
theorem mulC_mono {a0 a1 a2 a3 b0 b1 b2 b3:Int} {K K':Int→Int→Int→Int→Prop} (hk:∀a b c d,K a b c d→K' a b c d) (h:mulC a0 a1 a2 a3 b0 b1 b2 b3 K):mulC a0 a1 a2 a3 b0 b1 b2 b3 K':=by
 obtain ⟨x,y,h1,h2⟩:=h
 exact ⟨x,y,h1,fun r hr y0 y1 y2 y3 hy=>hk _ _ _ _ (h2 r hr y0 y1 y2 y3 hy)⟩
theorem mulC_live {a0 a1 a2 a3 b0 b1 b2 b3:Int} {K:Int→Int→Int→Int→Prop} (h:mulC a0 a1 a2 a3 b0 b1 b2 b3 K):∃a b c d,K a b c d:=by
 obtain ⟨x,y,h1,h2⟩:=h
 exact ⟨_,_,_,_,h2 _ rfl _ _ _ _ (El.of (mmul_lt _ _))⟩
theorem mulC_of {a0 a1 a2 a3 b0 b1 b2 b3:Int} {K:Int→Int→Int→Int→Prop} (h:mulC a0 a1 a2 a3 b0 b1 b2 b3 K):MulP a0 a1 a2 a3 b0 b1 b2 b3 K:=by
 obtain ⟨x,y,⟨h1,h2⟩,h3⟩:=h
 exact MulP.of h1 h2 fun r hr=>h3 r hr _ _ _ _ (El.of (by rw[hr];exact mmul_lt _ _))
def addC (a0 a1 a2 a3 b0 b1 b2 b3:Int) (K:Int→Int→Int→Int→Prop):Prop:=∃x y,(El a0 a1 a2 a3 x∧El b0 b1 b2 b3 y)∧∀r,r=(x+y)%qN→∀y0 y1 y2 y3,El y0 y1 y2 y3 r→K y0 y1 y2 y3
theorem addC_mono {a0 a1 a2 a3 b0 b1 b2 b3:Int} {K K':Int→Int→Int→Int→Prop} (hk:∀a b c d,K a b c d→K' a b c d) (h:addC a0 a1 a2 a3 b0 b1 b2 b3 K):addC a0 a1 a2 a3 b0 b1 b2 b3 K':=by
 obtain ⟨x,y,h1,h2⟩:=h
 exact ⟨x,y,h1,fun r hr y0 y1 y2 y3 hy=>hk _ _ _ _ (h2 r hr y0 y1 y2 y3 hy)⟩
theorem addC_live {a0 a1 a2 a3 b0 b1 b2 b3:Int} {K:Int→Int→Int→Int→Prop} (h:addC a0 a1 a2 a3 b0 b1 b2 b3 K):∃a b c d,K a b c d:=by
 obtain ⟨x,y,h1,h2⟩:=h
 exact ⟨_,_,_,_,h2 _ rfl _ _ _ _ (El.of (Nat.mod_lt _ (by decide)))⟩
theorem addC_of {a0 a1 a2 a3 b0 b1 b2 b3:Int} {K:Int→Int→Int→Int→Prop} (h:addC a0 a1 a2 a3 b0 b1 b2 b3 K):AddP a0 a1 a2 a3 b0 b1 b2 b3 K:=by
 obtain ⟨x,y,⟨h1,h2⟩,h3⟩:=h
 exact AddP.of h1 h2 fun r hr=>h3 r hr _ _ _ _ (El.of (by rw[hr];exact Nat.mod_lt _ (by decide)))
def SubP (a0 a1 a2 a3 b0 b1 b2 b3:Int) (K:Int→Int→Int→Int→Prop):Prop:=
 SubS a0 b0 0 fun s0 k0=>SubS a1 b1 k0 fun s1 k1=>SubS a2 b2 k1 fun s2 k2=>SubS a3 b3 k2 fun s3 k3=>
  ((k3 !=0)=true→AddS s0 4332616871279656263 0 fun t0 j0=>AddS s1 10917124144477883021 j0 fun t1 j1=>AddS s2 13281191951274694749 j1 fun t2 j2=>AddS s3 3486998266802970665 j2 fun t3 _=>K t0 t1 t2 t3)∧
  ((k3 !=0)=false→K s0 s1 s2 s3)
theorem subp_eq {a0 a1 a2 a3 b0 b1 b2 b3 s0 s1 s2 s3 k0 k1 k2 k3:Int} (e0:s0=a0-b0-0+k0*18446744073709551616) (e1:s1=a1-b1-k0+k1*18446744073709551616)
  (e2:s2=a2-b2-k1+k2*18446744073709551616) (e3:s3=a3-b3-k2+k3*18446744073709551616):V4 s0 s1 s2 s3=V4 a0 a1 a2 a3-V4 b0 b1 b2 b3+k3*115792089237316195423570985008687907853269984665640564039457584007913129639936:=by
 unfold V4
 omega
def subN (x y:Nat):Nat:=(x+(qN-y))%qN
theorem sub_fin {x y:Nat} {s0 s1 s2 s3 k3 t0 t1 t2 t3 j3:Int} (hx:x<qN) (hy:y<qN) (ws:Wd s0∧Wd s1∧Wd s2∧Wd s3) (hk0:0≤k3) (hk1:k3≤1)
  (e:V4 s0 s1 s2 s3=(x:Int)-y+k3*115792089237316195423570985008687907853269984665640564039457584007913129639936):
  (k3=0→V4 s0 s1 s2 s3=((subN x y:Nat):Int))∧
  (k3≠0→(Wd t0∧Wd t1∧Wd t2∧Wd t3)→V4 t0 t1 t2 t3+j3*115792089237316195423570985008687907853269984665640564039457584007913129639936=V4 s0 s1 s2 s3+21888242871839275222246405745257275088696311157297823662689037894645226208583→0≤j3→j3≤1→V4 t0 t1 t2 t3=((subN x y:Nat):Int)):=by
 obtain ⟨w0,w1,w2,w3⟩:=ws
 have n0:=V4_nonneg w0 w1 w2 w3
 have n1:=V4_lt w0 w1 w2 w3
 unfold subN
 constructor
 ·intro h
  have:(x+(qN-y))%qN=x-y:=by
   rw[show x+(qN-y)=(x-y)+qN by omega,Nat.add_mod_right,Nat.mod_eq_of_lt (by omega)]
  rw[this]
  unfold qN at *
  omega
 ·rintro h ⟨v0,v1,v2,v3⟩ et l0 l1
  have m0:=V4_nonneg v0 v1 v2 v3
  have m1:=V4_lt v0 v1 v2 v3
  have hk:k3=1:=by omega
  subst hk
  have hxy:x<y:=by omega
  have:(x+(qN-y))%qN=x+(qN-y):=Nat.mod_eq_of_lt (by omega)
  rw[this]
  unfold qN at *
  omega
theorem SubP.of {a0 a1 a2 a3 b0 b1 b2 b3:Int} {x y:Nat} {K:Int→Int→Int→Int→Prop} (hx:El a0 a1 a2 a3 x) (hy:El b0 b1 b2 b3 y) (hK:∀r,r=subN x y→K (lm r 0) (lm r 1) (lm r 2) (lm r 3)):SubP a0 a1 a2 a3 b0 b1 b2 b3 K:=by
 obtain ⟨ha0,ha1,ha2,ha3⟩:=hx.wd
 obtain ⟨hb0,hb1,hb2,hb3⟩:=hy.wd
 refine SubS.of ha0 hb0 (Int.le_refl _) (by decide) fun s0 k0 c0 c1 c2 c3=> ?_
 refine SubS.of ha1 hb1 c1 c2 fun s1 k1 d0 d1 d2 d3=> ?_
 refine SubS.of ha2 hb2 d1 d2 fun s2 k2 e0 e1 e2 e3=> ?_
 refine SubS.of ha3 hb3 e1 e2 fun s3 k3 f0 f1 f2 f3=> ?_
 have e:=subp_eq c3 d3 e3 f3
 rw[hx.val,hy.val]at e
 have fin:=fun t0 t1 t2 t3 j3=>sub_fin (t0:=t0) (t1:=t1) (t2:=t2) (t3:=t3) (j3:=j3) hx.lt hy.lt ⟨c0,d0,e0,f0⟩ f1 f2 e
 have done:∀z0 z1 z2 z3:Int,Wd z0→Wd z1→Wd z2→Wd z3→V4 z0 z1 z2 z3=((subN x y:Nat):Int)→K z0 z1 z2 z3:=fun z0 z1 z2 z3 w0 w1 w2 w3 hz=>by
  obtain ⟨q0,q1,q2,q3⟩:=lm_of w0 w1 w2 w3 hz
  rw[q0,q1,q2,q3]
  exact hK _ rfl
 refine ⟨fun h=> ?_,fun h=> ?_⟩
 ·have hk:k3≠0:=by simpa using h
  refine AddS.of c0 wdq0 (Int.le_refl _) (by decide) fun t0 j0 g0 g1 g2 g3=> ?_
  refine AddS.of d0 wdq1 g1 g2 fun t1 j1 h0 h1 h2 h3=> ?_
  refine AddS.of e0 wdq2 h1 h2 fun t2 j2 i0 i1 i2 i3=> ?_
  refine AddS.of f0 wdq3 i1 i2 fun t3 j3 l0 l1 l2 l3=> ?_
  exact done _ _ _ _ g0 h0 i0 l0 ((fin t0 t1 t2 t3 j3).2 hk ⟨g0,h0,i0,l0⟩ (addp_eq g3 h3 i3 l3) l1 l2)
 ·have hk:k3=0:=by simpa using h
  exact done _ _ _ _ c0 d0 e0 f0 ((fin 0 0 0 0 0).1 hk)
def subC (a0 a1 a2 a3 b0 b1 b2 b3:Int) (K:Int→Int→Int→Int→Prop):Prop:=∃x y,(El a0 a1 a2 a3 x∧El b0 b1 b2 b3 y)∧∀r,r=subN x y→∀y0 y1 y2 y3,El y0 y1 y2 y3 r→K y0 y1 y2 y3
theorem subC_mono {a0 a1 a2 a3 b0 b1 b2 b3:Int} {K K':Int→Int→Int→Int→Prop} (hk:∀a b c d,K a b c d→K' a b c d) (h:subC a0 a1 a2 a3 b0 b1 b2 b3 K):subC a0 a1 a2 a3 b0 b1 b2 b3 K':=by
 obtain ⟨x,y,h1,h2⟩:=h
 exact ⟨x,y,h1,fun r hr y0 y1 y2 y3 hy=>hk _ _ _ _ (h2 r hr y0 y1 y2 y3 hy)⟩
theorem subC_live {a0 a1 a2 a3 b0 b1 b2 b3:Int} {K:Int→Int→Int→Int→Prop} (h:subC a0 a1 a2 a3 b0 b1 b2 b3 K):∃a b c d,K a b c d:=by
 obtain ⟨x,y,h1,h2⟩:=h
 exact ⟨_,_,_,_,h2 _ rfl _ _ _ _ (El.of (Nat.mod_lt _ (by decide)))⟩
theorem subC_of {a0 a1 a2 a3 b0 b1 b2 b3:Int} {K:Int→Int→Int→Int→Prop} (h:subC a0 a1 a2 a3 b0 b1 b2 b3 K):SubP a0 a1 a2 a3 b0 b1 b2 b3 K:=by
 obtain ⟨x,y,⟨h1,h2⟩,h3⟩:=h
 exact SubP.of h1 h2 fun r hr=>h3 r hr _ _ _ _ (El.of (by rw[hr];exact Nat.mod_lt _ (by decide)))
theorem vc_MulA0 (z0 z1 z2 z3 a0 a1 a2 a3 b0 b1 b2 b3:Int) (K:SV→Mem→Prop):execF cxMul u0 Tryz.f75 64 [.ptr 1 (.lit 0),.ptr 9 (.lit 0),.ptr 17 (.lit 0)] (memL [(1,⟨false,w4 z0 z1 z2 z3⟩),(9,⟨true,w4 a0 a1 a2 a3⟩),(17,
 ⟨true,w4 b0 b1 b2 b3⟩)]) K=(MulP a0 a1 a2 a3 b0 b1 b2 b3 fun a b c d=>K (.ptr 1 (.lit 0)) (memL [(1,⟨false,w4 a b c d⟩),(9,⟨true,w4 a0 a1 a2 a3⟩),(17,⟨true,w4 b0 b1 b2 b3⟩)])):=by kernel_rfl
theorem vc_MulA1 (z0 z1 z2 z3 a0 a1 a2 a3:Int) (K:SV→Mem→Prop):execF cxMul u0 Tryz.f75 64 [.ptr 1 (.lit 0),.ptr 1 (.lit 0),.ptr 9 (.lit 0)] (memL [(1,⟨false,w4 z0 z1 z2 z3⟩),(9,⟨true,w4 a0 a1 a2 a3⟩)]) K=(MulP z0 z1 z2 z3
 a0 a1 a2 a3 fun a b c d=>K (.ptr 1 (.lit 0)) (memL [(1,⟨false,w4 a b c d⟩),(9,⟨true,w4 a0 a1 a2 a3⟩)])):=by kernel_rfl
theorem vc_MulA2 (z0 z1 z2 z3 a0 a1 a2 a3:Int) (K:SV→Mem→Prop):execF cxMul u0 Tryz.f75 64 [.ptr 1 (.lit 0),.ptr 9 (.lit 0),.ptr 1 (.lit 0)] (memL [(1,⟨false,w4 z0 z1 z2 z3⟩),(9,⟨true,w4 a0 a1 a2 a3⟩)]) K=(MulP a0 a1 a2 a3
 z0 z1 z2 z3 fun a b c d=>K (.ptr 1 (.lit 0)) (memL [(1,⟨false,w4 a b c d⟩),(9,⟨true,w4 a0 a1 a2 a3⟩)])):=by kernel_rfl
theorem vc_MulA3 (z0 z1 z2 z3 a0 a1 a2 a3:Int) (K:SV→Mem→Prop):execF cxMul u0 Tryz.f75 64 [.ptr 1 (.lit 0),.ptr 9 (.lit 0),.ptr 9 (.lit 0)] (memL [(1,⟨false,w4 z0 z1 z2 z3⟩),(9,⟨true,w4 a0 a1 a2 a3⟩)]) K=(MulP a0 a1 a2 a3
 a0 a1 a2 a3 fun a b c d=>K (.ptr 1 (.lit 0)) (memL [(1,⟨false,w4 a b c d⟩),(9,⟨true,w4 a0 a1 a2 a3⟩)])):=by kernel_rfl
def gMulA:G0:=fun args l K=>
 match args,l with
 | [.ptr 1 (.lit 0),.ptr 9 (.lit 0),.ptr 17 (.lit 0)],[(1,⟨false,.cells [.int .u64 (.sym z0),.int .u64 (.sym z1),.int .u64 (.sym z2),.int .u64 (.sym z3)]⟩),(9,⟨true,.cells [.int .u64 (.sym a0),.int .u64 (.sym a1),.int .u64 (.sym a2),.int .u64 (.sym a3)]⟩),(17,⟨true,.cells [.int .u64 (.sym b0),.int .u64 (.sym b1),.int .u64 (.sym b2),.int .u64 (.sym b3)]⟩)]=>mulC a0 a1 a2 a3 b0 b1 b2 b3 fun y0 y1 y2 y3=>K (.ptr 1 (.lit 0)) (memL [(1,⟨false,w4 y0 y1 y2 y3⟩),(9,⟨true,w4 a0 a1 a2 a3⟩),(17,⟨true,w4 b0 b1 b2 b3⟩)])
 | [.ptr 1 (.lit 0),.ptr 1 (.lit 0),.ptr 9 (.lit 0)],[(1,⟨false,.cells [.int .u64 (.sym z0),.int .u64 (.sym z1),.int .u64 (.sym z2),.int .u64 (.sym z3)]⟩),(9,⟨true,.cells [.int .u64 (.sym a0),.int .u64 (.sym a1),.int .u64 (.sym a2),.int .u64 (.sym a3)]⟩)]=>mulC z0 z1 z2 z3 a0 a1 a2 a3 fun y0 y1 y2 y3=>K (.ptr 1 (.lit 0)) (memL [(1,⟨false,w4 y0 y1 y2 y3⟩),(9,⟨true,w4 a0 a1 a2 a3⟩)])
 | [.ptr 1 (.lit 0),.ptr 9 (.lit 0),.ptr 1 (.lit 0)],[(1,⟨false,.cells [.int .u64 (.sym z0),.int .u64 (.sym z1),.int .u64 (.sym z2),.int .u64 (.sym z3)]⟩),(9,⟨true,.cells [.int .u64 (.sym a0),.int .u64 (.sym a1),.int .u64 (.sym a2),.int .u64 (.sym a3)]⟩)]=>mulC a0 a1 a2 a3 z0 z1 z2 z3 fun y0 y1 y2 y3=>K (.ptr 1 (.lit 0)) (memL [(1,⟨false,w4 y0 y1 y2 y3⟩),(9,⟨true,w4 a0 a1 a2 a3⟩)])
 | [.ptr 1 (.lit 0),.ptr 9 (.lit 0),.ptr 9 (.lit 0)],[(1,⟨false,.cells [.int .u64 (.sym z0),.int .u64 (.sym z1),.int .u64 (.sym z2),.int .u64 (.sym z3)]⟩),(9,⟨true,.cells [.int .u64 (.sym a0),.int .u64 (.sym a1),.int .u64 (.sym a2),.int .u64 (.sym a3)]⟩)]=>mulC a0 a1 a2 a3 a0 a1 a2 a3 fun y0 y1 y2 y3=>K (.ptr 1 (.lit 0)) (memL [(1,⟨false,w4 y0 y1 y2 y3⟩),(9,⟨true,w4 a0 a1 a2 a3⟩)])
 | _,_=>False
theorem MulA_good:Good gMulA:=by
 constructor
 ·intro args l K K' hk h
  unfold gMulA at h ⊢
  split at h
  ·exact mulC_mono (fun _ _ _ _=>hk _ _) h
  ·exact mulC_mono (fun _ _ _ _=>hk _ _) h
  ·exact mulC_mono (fun _ _ _ _=>hk _ _) h
  ·exact mulC_mono (fun _ _ _ _=>hk _ _) h
  ·exact h.elim
 ·intro args l K h
  unfold gMulA at h
  split at h
  ·obtain ⟨_,_,_,_,h⟩:=mulC_live h
   exact ⟨_,_,h⟩
  ·obtain ⟨_,_,_,_,h⟩:=mulC_live h
   exact ⟨_,_,h⟩
  ·obtain ⟨_,_,_,_,h⟩:=mulC_live h
   exact ⟨_,_,h⟩
  ·obtain ⟨_,_,_,_,h⟩:=mulC_live h
   exact ⟨_,_,h⟩
  ·exact h.elim
theorem MulA_ok (args:List SV) (l:List (Nat×Reg)) (K:SV→Mem→Prop) (hK:KUp K) (h:gMulA args l K):∃U,execF cxMul U Tryz.f75 64 args (memL l) K:=by
 unfold gMulA at h
 split at h
 ·rename_i z0 z1 z2 z3 a0 a1 a2 a3 b0 b1 b2 b3
  refine ⟨u0,?_⟩
  have:=vc_MulA0 z0 z1 z2 z3 a0 a1 a2 a3 b0 b1 b2 b3 K
  unfold w4 at this
  rw[this]
  exact mulC_of h
 ·rename_i z0 z1 z2 z3 a0 a1 a2 a3
  refine ⟨u0,?_⟩
  have:=vc_MulA1 z0 z1 z2 z3 a0 a1 a2 a3 K
  unfold w4 at this
  rw[this]
  exact mulC_of h
 ·rename_i z0 z1 z2 z3 a0 a1 a2 a3
  refine ⟨u0,?_⟩
  have:=vc_MulA2 z0 z1 z2 z3 a0 a1 a2 a3 K
  unfold w4 at this
  rw[this]
  exact mulC_of h
 ·rename_i z0 z1 z2 z3 a0 a1 a2 a3
  refine ⟨u0,?_⟩
  have:=vc_MulA3 z0 z1 z2 z3 a0 a1 a2 a3 K
  unfold w4 at this
  rw[this]
  exact mulC_of h
 ·exact h.elim
def kMulA:Ef Tryz.prog:=mkE mixed 75 Tryz.func75 (by decide) (by kernel_rfl) [] [.ptr 4 false,.ptr 4 true,.ptr 4 true] gMulA MulA_good MulA_ok
theorem vc_Sqr0 (z0 z1 z2 z3 a0 a1 a2 a3:Int) (K:SV→Mem→Prop):execF cxMul u0 Tryz.f72 64 [.ptr 1 (.lit 0),.ptr 9 (.lit 0)] (memL [(1,⟨false,w4 z0 z1 z2 z3⟩),(9,⟨true,w4 a0 a1 a2 a3⟩)]) K=(MulP a0 a1 a2 a3 a0 a1 a2 a3 fun a
 b c d=>K (.ptr 1 (.lit 0)) (memL [(1,⟨false,w4 a b c d⟩),(9,⟨true,w4 a0 a1 a2 a3⟩)])):=by kernel_rfl
theorem vc_Sqr1 (z0 z1 z2 z3:Int) (K:SV→Mem→Prop):execF cxMul u0 Tryz.f72 64 [.ptr 1 (.lit 0),.ptr 1 (.lit 0)] (memL [(1,⟨false,w4 z0 z1 z2 z3⟩)]) K=(MulP z0 z1 z2 z3 z0 z1 z2 z3 fun a b c d=>K (.ptr 1 (.lit 0)) (memL [(1,
 ⟨false,w4 a b c d⟩)])):=by kernel_rfl
def gSqr:G0:=fun args l K=>
 match args,l with
 | [.ptr 1 (.lit 0),.ptr 9 (.lit 0)],[(1,⟨false,.cells [.int .u64 (.sym z0),.int .u64 (.sym z1),.int .u64 (.sym z2),.int .u64 (.sym z3)]⟩),(9,⟨true,.cells [.int .u64 (.sym a0),.int .u64 (.sym a1),.int .u64 (.sym a2),.int .u64 (.sym a3)]⟩)]=>mulC a0 a1 a2 a3 a0 a1 a2 a3 fun y0 y1 y2 y3=>K (.ptr 1 (.lit 0)) (memL [(1,⟨false,w4 y0 y1 y2 y3⟩),(9,⟨true,w4 a0 a1 a2 a3⟩)])
 | [.ptr 1 (.lit 0),.ptr 1 (.lit 0)],[(1,⟨false,.cells [.int .u64 (.sym z0),.int .u64 (.sym z1),.int .u64 (.sym z2),.int .u64 (.sym z3)]⟩)]=>mulC z0 z1 z2 z3 z0 z1 z2 z3 fun y0 y1 y2 y3=>K (.ptr 1 (.lit 0)) (memL [(1,⟨false,w4 y0 y1 y2 y3⟩)])
 | _,_=>False
theorem Sqr_good:Good gSqr:=by
 constructor
 ·intro args l K K' hk h
  unfold gSqr at h ⊢
  split at h
  ·exact mulC_mono (fun _ _ _ _=>hk _ _) h
  ·exact mulC_mono (fun _ _ _ _=>hk _ _) h
  ·exact h.elim
 ·intro args l K h
  unfold gSqr at h
  split at h
  ·obtain ⟨_,_,_,_,h⟩:=mulC_live h
   exact ⟨_,_,h⟩
  ·obtain ⟨_,_,_,_,h⟩:=mulC_live h
   exact ⟨_,_,h⟩
  ·exact h.elim
theorem Sqr_ok (args:List SV) (l:List (Nat×Reg)) (K:SV→Mem→Prop) (hK:KUp K) (h:gSqr args l K):∃U,execF cxMul U Tryz.f72 64 args (memL l) K:=by
 unfold gSqr at h
 split at h
 ·rename_i z0 z1 z2 z3 a0 a1 a2 a3
  refine ⟨u0,?_⟩
  have:=vc_Sqr0 z0 z1 z2 z3 a0 a1 a2 a3 K
  unfold w4 at this
  rw[this]
  exact mulC_of h
 ·rename_i z0 z1 z2 z3
  refine ⟨u0,?_⟩
  have:=vc_Sqr1 z0 z1 z2 z3 K
  unfold w4 at this
  rw[this]
  exact mulC_of h
 ·exact h.elim
def kSqr:Ef Tryz.prog:=mkE mixed 72 Tryz.func72 (by decide) (by kernel_rfl) [] [.ptr 4 false,.ptr 4 true] gSqr Sqr_good Sqr_ok
theorem vc_AddA0 (z0 z1 z2 z3 a0 a1 a2 a3 b0 b1 b2 b3:Int) (K:SV→Mem→Prop):execF cxAdd u0 Tryz.f73 64 [.ptr 1 (.lit 0),.ptr 9 (.lit 0),.ptr 17 (.lit 0)] (memL [(1,⟨false,w4 z0 z1 z2 z3⟩),(9,⟨true,w4 a0 a1 a2 a3⟩),(17,
 ⟨true,w4 b0 b1 b2 b3⟩)]) K=(AddP a0 a1 a2 a3 b0 b1 b2 b3 fun a b c d=>K (.ptr 1 (.lit 0)) (memL [(1,⟨false,w4 a b c d⟩),(9,⟨true,w4 a0 a1 a2 a3⟩),(17,⟨true,w4 b0 b1 b2 b3⟩)])):=by kernel_rfl
theorem vc_AddA1 (z0 z1 z2 z3 a0 a1 a2 a3:Int) (K:SV→Mem→Prop):execF cxAdd u0 Tryz.f73 64 [.ptr 1 (.lit 0),.ptr 1 (.lit 0),.ptr 9 (.lit 0)] (memL [(1,⟨false,w4 z0 z1 z2 z3⟩),(9,⟨true,w4 a0 a1 a2 a3⟩)]) K=(AddP z0 z1 z2 z3
 a0 a1 a2 a3 fun a b c d=>K (.ptr 1 (.lit 0)) (memL [(1,⟨false,w4 a b c d⟩),(9,⟨true,w4 a0 a1 a2 a3⟩)])):=by kernel_rfl
theorem vc_AddA2 (z0 z1 z2 z3 a0 a1 a2 a3:Int) (K:SV→Mem→Prop):execF cxAdd u0 Tryz.f73 64 [.ptr 1 (.lit 0),.ptr 9 (.lit 0),.ptr 1 (.lit 0)] (memL [(1,⟨false,w4 z0 z1 z2 z3⟩),(9,⟨true,w4 a0 a1 a2 a3⟩)]) K=(AddP a0 a1 a2 a3
 z0 z1 z2 z3 fun a b c d=>K (.ptr 1 (.lit 0)) (memL [(1,⟨false,w4 a b c d⟩),(9,⟨true,w4 a0 a1 a2 a3⟩)])):=by kernel_rfl
theorem vc_AddA3 (z0 z1 z2 z3 a0 a1 a2 a3:Int) (K:SV→Mem→Prop):execF cxAdd u0 Tryz.f73 64 [.ptr 1 (.lit 0),.ptr 9 (.lit 0),.ptr 9 (.lit 0)] (memL [(1,⟨false,w4 z0 z1 z2 z3⟩),(9,⟨true,w4 a0 a1 a2 a3⟩)]) K=(AddP a0 a1 a2 a3
 a0 a1 a2 a3 fun a b c d=>K (.ptr 1 (.lit 0)) (memL [(1,⟨false,w4 a b c d⟩),(9,⟨true,w4 a0 a1 a2 a3⟩)])):=by kernel_rfl
def gAddA:G0:=fun args l K=>
 match args,l with
 | [.ptr 1 (.lit 0),.ptr 9 (.lit 0),.ptr 17 (.lit 0)],[(1,⟨false,.cells [.int .u64 (.sym z0),.int .u64 (.sym z1),.int .u64 (.sym z2),.int .u64 (.sym z3)]⟩),(9,⟨true,.cells [.int .u64 (.sym a0),.int .u64 (.sym a1),.int .u64 (.sym a2),.int .u64 (.sym a3)]⟩),(17,⟨true,.cells [.int .u64 (.sym b0),.int .u64 (.sym b1),.int .u64 (.sym b2),.int .u64 (.sym b3)]⟩)]=>addC a0 a1 a2 a3 b0 b1 b2 b3 fun y0 y1 y2 y3=>K (.ptr 1 (.lit 0)) (memL [(1,⟨false,w4 y0 y1 y2 y3⟩),(9,⟨true,w4 a0 a1 a2 a3⟩),(17,⟨true,w4 b0 b1 b2 b3⟩)])
 | [.ptr 1 (.lit 0),.ptr 1 (.lit 0),.ptr 9 (.lit 0)],[(1,⟨false,.cells [.int .u64 (.sym z0),.int .u64 (.sym z1),.int .u64 (.sym z2),.int .u64 (.sym z3)]⟩),(9,⟨true,.cells [.int .u64 (.sym a0),.int .u64 (.sym a1),.int .u64 (.sym a2),.int .u64 (.sym a3)]⟩)]=>addC z0 z1 z2 z3 a0 a1 a2 a3 fun y0 y1 y2 y3=>K (.ptr 1 (.lit 0)) (memL [(1,⟨false,w4 y0 y1 y2 y3⟩),(9,⟨true,w4 a0 a1 a2 a3⟩)])
 | [.ptr 1 (.lit 0),.ptr 9 (.lit 0),.ptr 1 (.lit 0)],[(1,⟨false,.cells [.int .u64 (.sym z0),.int .u64 (.sym z1),.int .u64 (.sym z2),.int .u64 (.sym z3)]⟩),(9,⟨true,.cells [.int .u64 (.sym a0),.int .u64 (.sym a1),.int .u64 (.sym a2),.int .u64 (.sym a3)]⟩)]=>addC a0 a1 a2 a3 z0 z1 z2 z3 fun y0 y1 y2 y3=>K (.ptr 1 (.lit 0)) (memL [(1,⟨false,w4 y0 y1 y2 y3⟩),(9,⟨true,w4 a0 a1 a2 a3⟩)])
 | [.ptr 1 (.lit 0),.ptr 9 (.lit 0),.ptr 9 (.lit 0)],[(1,⟨false,.cells [.int .u64 (.sym z0),.int .u64 (.sym z1),.int .u64 (.sym z2),.int .u64 (.sym z3)]⟩),(9,⟨true,.cells [.int .u64 (.sym a0),.int .u64 (.sym a1),.int .u64 (.sym a2),.int .u64 (.sym a3)]⟩)]=>addC a0 a1 a2 a3 a0 a1 a2 a3 fun y0 y1 y2 y3=>K (.ptr 1 (.lit 0)) (memL [(1,⟨false,w4 y0 y1 y2 y3⟩),(9,⟨true,w4 a0 a1 a2 a3⟩)])
 | _,_=>False
theorem AddA_good:Good gAddA:=by
 constructor
 ·intro args l K K' hk h
  unfold gAddA at h ⊢
  split at h
  ·exact addC_mono (fun _ _ _ _=>hk _ _) h
  ·exact addC_mono (fun _ _ _ _=>hk _ _) h
  ·exact addC_mono (fun _ _ _ _=>hk _ _) h
  ·exact addC_mono (fun _ _ _ _=>hk _ _) h
  ·exact h.elim
 ·intro args l K h
  unfold gAddA at h
  split at h
  ·obtain ⟨_,_,_,_,h⟩:=addC_live h
   exact ⟨_,_,h⟩
  ·obtain ⟨_,_,_,_,h⟩:=addC_live h
   exact ⟨_,_,h⟩
  ·obtain ⟨_,_,_,_,h⟩:=addC_live h
   exact ⟨_,_,h⟩
  ·obtain ⟨_,_,_,_,h⟩:=addC_live h
   exact ⟨_,_,h⟩
  ·exact h.elim
theorem AddA_ok (args:List SV) (l:List (Nat×Reg)) (K:SV→Mem→Prop) (hK:KUp K) (h:gAddA args l K):∃U,execF cxAdd U Tryz.f73 64 args (memL l) K:=by
 unfold gAddA at h
 split at h
 ·rename_i z0 z1 z2 z3 a0 a1 a2 a3 b0 b1 b2 b3
  refine ⟨u0,?_⟩
  have:=vc_AddA0 z0 z1 z2 z3 a0 a1 a2 a3 b0 b1 b2 b3 K
  unfold w4 at this
  rw[this]
  exact addC_of h
 ·rename_i z0 z1 z2 z3 a0 a1 a2 a3
  refine ⟨u0,?_⟩
  have:=vc_AddA1 z0 z1 z2 z3 a0 a1 a2 a3 K
  unfold w4 at this
  rw[this]
  exact addC_of h
 ·rename_i z0 z1 z2 z3 a0 a1 a2 a3
  refine ⟨u0,?_⟩
  have:=vc_AddA2 z0 z1 z2 z3 a0 a1 a2 a3 K
  unfold w4 at this
  rw[this]
  exact addC_of h
 ·rename_i z0 z1 z2 z3 a0 a1 a2 a3
  refine ⟨u0,?_⟩
  have:=vc_AddA3 z0 z1 z2 z3 a0 a1 a2 a3 K
  unfold w4 at this
  rw[this]
  exact addC_of h
 ·exact h.elim
def kAddA:Ef Tryz.prog:=mkE mixed 73 Tryz.func73 (by decide) (by kernel_rfl) [] [.ptr 4 false,.ptr 4 true,.ptr 4 true] gAddA AddA_good AddA_ok
theorem vc_SubA0 (z0 z1 z2 z3 a0 a1 a2 a3 b0 b1 b2 b3:Int) (K:SV→Mem→Prop):execF cxAdd u0 Tryz.f102 64 [.ptr 1 (.lit 0),.ptr 9 (.lit 0),.ptr 17 (.lit 0)] (memL [(1,⟨false,w4 z0 z1 z2 z3⟩),(9,⟨true,w4 a0 a1 a2 a3⟩),(17,
 ⟨true,w4 b0 b1 b2 b3⟩)]) K=(SubP a0 a1 a2 a3 b0 b1 b2 b3 fun a b c d=>K (.ptr 1 (.lit 0)) (memL [(1,⟨false,w4 a b c d⟩),(9,⟨true,w4 a0 a1 a2 a3⟩),(17,⟨true,w4 b0 b1 b2 b3⟩)])):=by kernel_rfl
theorem vc_SubA1 (z0 z1 z2 z3 a0 a1 a2 a3:Int) (K:SV→Mem→Prop):execF cxAdd u0 Tryz.f102 64 [.ptr 1 (.lit 0),.ptr 1 (.lit 0),.ptr 9 (.lit 0)] (memL [(1,⟨false,w4 z0 z1 z2 z3⟩),(9,⟨true,w4 a0 a1 a2 a3⟩)]) K=(SubP z0 z1 z2 z3
 a0 a1 a2 a3 fun a b c d=>K (.ptr 1 (.lit 0)) (memL [(1,⟨false,w4 a b c d⟩),(9,⟨true,w4 a0 a1 a2 a3⟩)])):=by kernel_rfl
theorem vc_SubA2 (z0 z1 z2 z3 a0 a1 a2 a3:Int) (K:SV→Mem→Prop):execF cxAdd u0 Tryz.f102 64 [.ptr 1 (.lit 0),.ptr 9 (.lit 0),.ptr 1 (.lit 0)] (memL [(1,⟨false,w4 z0 z1 z2 z3⟩),(9,⟨true,w4 a0 a1 a2 a3⟩)]) K=(SubP a0 a1 a2 a3
 z0 z1 z2 z3 fun a b c d=>K (.ptr 1 (.lit 0)) (memL [(1,⟨false,w4 a b c d⟩),(9,⟨true,w4 a0 a1 a2 a3⟩)])):=by kernel_rfl
def gSubA:G0:=fun args l K=>
 match args,l with
 | [.ptr 1 (.lit 0),.ptr 9 (.lit 0),.ptr 17 (.lit 0)],[(1,⟨false,.cells [.int .u64 (.sym z0),.int .u64 (.sym z1),.int .u64 (.sym z2),.int .u64 (.sym z3)]⟩),(9,⟨true,.cells [.int .u64 (.sym a0),.int .u64 (.sym a1),.int .u64 (.sym a2),.int .u64 (.sym a3)]⟩),(17,⟨true,.cells [.int .u64 (.sym b0),.int .u64 (.sym b1),.int .u64 (.sym b2),.int .u64 (.sym b3)]⟩)]=>subC a0 a1 a2 a3 b0 b1 b2 b3 fun y0 y1 y2 y3=>K (.ptr 1 (.lit 0)) (memL [(1,⟨false,w4 y0 y1 y2 y3⟩),(9,⟨true,w4 a0 a1 a2 a3⟩),(17,⟨true,w4 b0 b1 b2 b3⟩)])
 | [.ptr 1 (.lit 0),.ptr 1 (.lit 0),.ptr 9 (.lit 0)],[(1,⟨false,.cells [.int .u64 (.sym z0),.int .u64 (.sym z1),.int .u64 (.sym z2),.int .u64 (.sym z3)]⟩),(9,⟨true,.cells [.int .u64 (.sym a0),.int .u64 (.sym a1),.int .u64 (.sym a2),.int .u64 (.sym a3)]⟩)]=>subC z0 z1 z2 z3 a0 a1 a2 a3 fun y0 y1 y2 y3=>K (.ptr 1 (.lit 0)) (memL [(1,⟨false,w4 y0 y1 y2 y3⟩),(9,⟨true,w4 a0 a1 a2 a3⟩)])
 | [.ptr 1 (.lit 0),.ptr 9 (.lit 0),.ptr 1 (.lit 0)],[(1,⟨false,.cells [.int .u64 (.sym z0),.int .u64 (.sym z1),.int .u64 (.sym z2),.int .u64 (.sym z3)]⟩),(9,⟨true,.cells [.int .u64 (.sym a0),.int .u64 (.sym a1),.int .u64 (.sym a2),.int .u64 (.sym a3)]⟩)]=>subC a0 a1 a2 a3 z0 z1 z2 z3 fun y0 y1 y2 y3=>K (.ptr 1 (.lit 0)) (memL [(1,⟨false,w4 y0 y1 y2 y3⟩),(9,⟨true,w4 a0 a1 a2 a3⟩)])
 | _,_=>False
theorem SubA_good:Good gSubA:=by
 constructor
 ·intro args l K K' hk h
  unfold gSubA at h ⊢
  split at h
  ·exact subC_mono (fun _ _ _ _=>hk _ _) h
  ·exact subC_mono (fun _ _ _ _=>hk _ _) h
  ·exact subC_mono (fun _ _ _ _=>hk _ _) h
  ·exact h.elim
 ·intro args l K h
  unfold gSubA at h
  split at h
  ·obtain ⟨_,_,_,_,h⟩:=subC_live h
   exact ⟨_,_,h⟩
  ·obtain ⟨_,_,_,_,h⟩:=subC_live h
   exact ⟨_,_,h⟩
  ·obtain ⟨_,_,_,_,h⟩:=subC_live h
   exact ⟨_,_,h⟩
  ·exact h.elim
theorem SubA_ok (args:List SV) (l:List (Nat×Reg)) (K:SV→Mem→Prop) (hK:KUp K) (h:gSubA args l K):∃U,execF cxAdd U Tryz.f102 64 args (memL l) K:=by
 unfold gSubA at h
 split at h
 ·rename_i z0 z1 z2 z3 a0 a1 a2 a3 b0 b1 b2 b3
  refine ⟨u0,?_⟩
  have:=vc_SubA0 z0 z1 z2 z3 a0 a1 a2 a3 b0 b1 b2 b3 K
  unfold w4 at this
  rw[this]
  exact subC_of h
 ·rename_i z0 z1 z2 z3 a0 a1 a2 a3
  refine ⟨u0,?_⟩
  have:=vc_SubA1 z0 z1 z2 z3 a0 a1 a2 a3 K
  unfold w4 at this
  rw[this]
  exact subC_of h
 ·rename_i z0 z1 z2 z3 a0 a1 a2 a3
  refine ⟨u0,?_⟩
  have:=vc_SubA2 z0 z1 z2 z3 a0 a1 a2 a3 K
  unfold w4 at this
  rw[this]
  exact subC_of h
 ·exact h.elim
def kSubA:Ef Tryz.prog:=mkE mixed 102 Tryz.func102 (by decide) (by kernel_rfl) [] [.ptr 4 false,.ptr 4 true,.ptr 4 true] gSubA SubA_good SubA_ok
theorem bv64 {a:Int} (h:Wd a):(BitVec.ofInt IntKind.u64.bits a).toNat=a.toNat:=by
 unfold Wd at h
 simp only[IntKind.bits,BitVec.toNat_ofInt]
 omega
theorem bor_eq {a b:Int} (ha:Wd a) (hb:Wd b):bor .u64 a b=((a.toNat ||| b.toNat:Nat):Int)∧Wd (bor .u64 a b):=by
 have hl:a.toNat ||| b.toNat<2 ^ 64:=Nat.or_lt_two_pow (by unfold Wd at ha;omega) (by unfold Wd at hb;omega)
 have e:bor .u64 a b=((a.toNat ||| b.toNat:Nat):Int):=by
  unfold bor
  rw[BitVec.toNat_or,bv64 ha,bv64 hb,wu64,Int.emod_eq_of_lt (by omega) (by omega)]
 exact ⟨e,by rw[e];unfold Wd;omega⟩
theorem bxor_eq {a b:Int} (ha:Wd a) (hb:Wd b):bxor .u64 a b=((a.toNat ^^^ b.toNat:Nat):Int)∧Wd (bxor .u64 a b):=by
 have hl:a.toNat ^^^ b.toNat<2 ^ 64:=Nat.xor_lt_two_pow (by unfold Wd at ha;omega) (by unfold Wd at hb;omega)
 have e:bxor .u64 a b=((a.toNat ^^^ b.toNat:Nat):Int):=by
  unfold bxor
  rw[BitVec.toNat_xor,bv64 ha,bv64 hb,wu64,Int.emod_eq_of_lt (by omega) (by omega)]
 exact ⟨e,by rw[e];unfold Wd;omega⟩
theorem band_eq {a b:Int} (ha:Wd a) (hb:Wd b):band .u64 a b=((a.toNat &&& b.toNat:Nat):Int)∧Wd (band .u64 a b):=by
 have hl:a.toNat &&& b.toNat≤a.toNat:=Nat.and_le_left
 have ha':=ha
 unfold Wd at ha'
 have e:band .u64 a b=((a.toNat &&& b.toNat:Nat):Int):=by
  unfold band
  rw[BitVec.toNat_and,bv64 ha,bv64 hb,wu64,Int.emod_eq_of_lt (by omega) (by omega)]
 exact ⟨e,by rw[e];unfold Wd;omega⟩
theorem bor_zero {a b:Int} (ha:Wd a) (hb:Wd b):Wd (bor .u64 a b)∧(bor .u64 a b=0↔a=0∧b=0):=by
 obtain ⟨e,w⟩:=bor_eq ha hb
 refine ⟨w,?_⟩
 unfold Wd at ha hb
 rw[e]
 have:(a.toNat ||| b.toNat=0)↔a.toNat=0∧b.toNat=0:=Nat.or_eq_zero_iff
 omega
theorem xz {a b:Nat}:a ^^^ b=0↔a=b:=by
 constructor
 ·intro h
  apply Nat.eq_of_testBit_eq
  intro i
  have:=congrArg (fun x=>x.testBit i) h
  simp only[Nat.testBit_xor,Nat.zero_testBit]at this
  revert this
  cases a.testBit i<;>cases b.testBit i<;>simp
 ·rintro rfl
  exact Nat.xor_self a
theorem bxor_zeq {a b:Int} (ha:Wd a) (hb:Wd b):Wd (bxor .u64 a b)∧(bxor .u64 a b=0↔a=b):=by
 obtain ⟨e,w⟩:=bxor_eq ha hb
 refine ⟨w,?_⟩
 unfold Wd at ha hb
 rw[e]
 have:(a.toNat ^^^ b.toNat=0)↔a.toNat=b.toNat:=xz
 omega
theorem V4_zero {a b c d:Int} (ha:Wd a) (hb:Wd b) (hc:Wd c) (hd:Wd d):V4 a b c d=0↔a=0∧b=0∧c=0∧d=0:=by
 unfold V4 Wd at *
 omega
theorem V4_inj {a b c d a' b' c' d':Int} (ha:Wd a) (hb:Wd b) (hc:Wd c) (hd:Wd d) (ha':Wd a') (hb':Wd b') (hc':Wd c') (hd':Wd d'):V4 a b c d=V4 a' b' c' d'↔a=a'∧b=b'∧c=c'∧d=d':=by
 unfold V4 Wd at *
 omega
def c4 (c:Ct) (K:Int→Int→Int→Int→Prop):Prop:=
 match c with
 | .cells [.int .u64 (.sym a),.int .u64 (.sym b),.int .u64 (.sym c),.int .u64 (.sym d)]=>K a b c d
 | _=>False
theorem c4_mono {c:Ct} {K K':Int→Int→Int→Int→Prop} (hk:∀a b c d,K a b c d→K' a b c d) (h:c4 c K):c4 c K':=by
 unfold c4 at h ⊢
 split at h
 ·exact hk _ _ _ _ h
 ·exact h.elim
theorem c4_ex {c:Ct} {K:Int→Int→Int→Int→Prop} (h:c4 c K):∃a b d e,c=w4 a b d e∧K a b d e:=by
 unfold c4 at h
 split at h
 ·exact ⟨_,_,_,_,rfl,h⟩
 ·exact h.elim
def r4 (c:Ct) (f:Int→Int→Int→Int→Option (Ob×SV)):Option (Ob×SV):=
 match c with
 | .cells [.int .u64 (.sym a),.int .u64 (.sym b),.int .u64 (.sym c),.int .u64 (.sym d)]=>f a b c d
 | _=>none
theorem r4_ex {c:Ct} {f:Int→Int→Int→Int→Option (Ob×SV)} {x:Ob×SV} (h:r4 c f=some x):∃a b d e,c=w4 a b d e∧f a b d e=some x:=by
 unfold r4 at h
 split at h
 ·exact ⟨_,_,_,_,rfl,h⟩
 ·cases h
theorem vc_isz (a0 a1 a2 a3:Int) (K:SV→Mem→Prop):(execF cx0 u0 Tryz.f83 64 [.ptr 1 (.lit 0)] (memL [(1,⟨true,w4 a0 a1 a2 a3⟩)]) K)=(∀a,a=bor .u64 a3 a2→∀b,b=bor .u64 a a1→∀c,c=bor .u64 b a0→K (.bool (.sym (c
 ==0))) (memL [(1,⟨true,.cells [.int .u64 (.sym a0),.int .u64 (.sym a1),.int .u64 (.sym a2),.int .u64 (.sym a3)]⟩)])):=by kernel_rfl
theorem vc_iso (a0 a1 a2 a3:Int) (K:SV→Mem→Prop):(execF cx0 u0 Tryz.f131 64 [.ptr 1 (.lit 0)] (memL [(1,⟨true,w4 a0 a1 a2 a3⟩)]) K)=(∀a,a=bxor .u64 a3 (1011752739694698287:Int)→∀b,b=bxor .u64 a2 (7381016538464732716
 :Int)→∀c,c=bor .u64 a b→∀d,d=bxor .u64 a1 (754611498739239741:Int)→∀e,e=bor .u64 c d→∀f,f=bxor .u64 a0 (15230403791020821917:Int)→∀g,g=bor .u64 e f→K (.bool (.sym (g==0))) (memL [(1,⟨true,.cells
 [.int .u64 (.sym a0),.int .u64 (.sym a1),.int .u64 (.sym a2),.int .u64 (.sym a3)]⟩)])):=by kernel_rfl
theorem vc_ne (a0 a1 a2 a3 b0 b1 b2 b3:Int) (K:SV→Mem→Prop):(execF cx0 u0 Tryz.f135 64 [.ptr 1 (.lit 0),.ptr 9 (.lit 0)] (memL [(1,⟨true,w4 a0 a1 a2 a3⟩),(9,⟨true,w4 b0 b1 b2 b3⟩)]) K)=(∀a,a=bxor .u64 a3 b3→∀b,b=
 bxor .u64 a2 b2→∀c,c=bor .u64 a b→∀d,d=bxor .u64 a1 b1→∀e,e=bor .u64 c d→∀f,f=bxor .u64 a0 b0→∀g,g=bor .u64 e f→K (.int .u64 (.sym g)) (memL [(1,⟨true,.cells [.int .u64 (.sym a0),.int .u64 (.sym a1),.int
 .u64 (.sym a2),.int .u64 (.sym a3)]⟩),(9,⟨true,.cells [.int .u64 (.sym b0),.int .u64 (.sym b1),.int .u64 (.sym b2),.int .u64 (.sym b3)]⟩)])):=by kernel_rfl
def rIz:R0:=fun args l=>
 match args,l with
 | [.ptr 1 (.lit 0)],[(1,⟨true,x⟩)]=>r4 x fun a b c d=>some (some (Wd a∧Wd b∧Wd c∧Wd d),.bool (.sym (decide (V4 a b c d=0))))
 | _,_=>none
theorem iz_ok (args:List SV) (l:List (Nat×Reg)) (p:Ob) (v:SV) (h:rIz args l=some (p,v)) (hp:p.ok):∃U,execF cx0 U Tryz.f83 64 args (memL l) fun v' _=>∀β u,Den β v' u→Den β v u:=by
 unfold rIz at h
 split at h
 ·obtain ⟨a,b,c,d,rfl,q⟩:=r4_ex h
  simp only[Option.some.injEq,Prod.mk.injEq]at q
  obtain ⟨rfl,rfl⟩:=q
  obtain ⟨ha,hb,hc,hd⟩:Wd a∧Wd b∧Wd c∧Wd d:=hp
  refine ⟨u0,?_⟩
  have v:=vc_isz a b c d fun v' _=>∀β u,Den β v' u→Den β (.bool (.sym (decide (V4 a b c d=0)))) u
  rw[v]
  intro x0 h0 x1 h1 x2 h2
  obtain ⟨w0,z0⟩:=bor_zero hd hc
  rw[←h0]at w0 z0
  obtain ⟨w1,z1⟩:=bor_zero w0 hb
  rw[←h1]at w1 z1
  obtain ⟨w2,z2⟩:=bor_zero w1 ha
  rw[←h2]at w2 z2
  refine den_bool ?_
  show (x2==0)=_
  rw[Bool.eq_iff_iff,beq_iff_eq,decide_eq_true_eq,V4_zero ha hb hc hd,z2,z1,z0]
  constructor
  ·rintro ⟨⟨⟨h1,h2⟩,h3⟩,h4⟩;exact ⟨h4,h3,h2,h1⟩
  ·rintro ⟨h1,h2,h3,h4⟩;exact ⟨⟨⟨h4,h3⟩,h2⟩,h1⟩
 ·cases h
def cIz:Rd Tryz.prog:=mkQ mixed 83 Tryz.func83 (by decide) (by kernel_rfl) [] [.ptr 4 true] rIz iz_ok
def one4:Int:=V4 15230403791020821917 754611498739239741 7381016538464732716 1011752739694698287
theorem one_wd:Wd 15230403791020821917∧Wd 754611498739239741∧Wd 7381016538464732716∧Wd 1011752739694698287:=by unfold Wd;omega
theorem ne_chain {a0 a1 a2 a3 b0 b1 b2 b3 x0 x1 x2 x3 x4 x5 x6:Int} (ha:Wd a0∧Wd a1∧Wd a2∧Wd a3) (hb:Wd b0∧Wd b1∧Wd b2∧Wd b3) (h0:x0=bxor .u64 a3 b3) (h1:x1=bxor .u64 a2 b2) (h2:x2=bor .u64 x0 x1) (h3:x3=bxor .u64 a1 b1) (h4:x4=bor .u64 x2 x3) (h5:x5=bxor .u64 a0 b0) (h6:x6=bor .u64 x4 x5):
  Wd x6∧(x6=0↔V4 a0 a1 a2 a3=V4 b0 b1 b2 b3):=by
 obtain ⟨a0w,a1w,a2w,a3w⟩:=ha
 obtain ⟨b0w,b1w,b2w,b3w⟩:=hb
 obtain ⟨w0,z0⟩:=bxor_zeq a3w b3w
 rw[←h0]at w0 z0
 obtain ⟨w1,z1⟩:=bxor_zeq a2w b2w
 rw[←h1]at w1 z1
 obtain ⟨w2,z2⟩:=bor_zero w0 w1
 rw[←h2]at w2 z2
 obtain ⟨w3,z3⟩:=bxor_zeq a1w b1w
 rw[←h3]at w3 z3
 obtain ⟨w4,z4⟩:=bor_zero w2 w3
 rw[←h4]at w4 z4
 obtain ⟨w5,z5⟩:=bxor_zeq a0w b0w
 rw[←h5]at w5 z5
 obtain ⟨w6,z6⟩:=bor_zero w4 w5
 rw[←h6]at w6 z6
 refine ⟨w6,?_⟩
 rw[V4_inj a0w a1w a2w a3w b0w b1w b2w b3w,z6,z4,z2,z0,z1,z3,z5]
 constructor
 ·rintro ⟨⟨⟨h1,h2⟩,h3⟩,h4⟩;exact ⟨h4,h3,h2,h1⟩
 ·rintro ⟨h1,h2,h3,h4⟩;exact ⟨⟨⟨h4,h3⟩,h2⟩,h1⟩
def rIo:R0:=fun args l=>
 match args,l with
 | [.ptr 1 (.lit 0)],[(1,⟨true,x⟩)]=>r4 x fun a b c d=>some (some (Wd a∧Wd b∧Wd c∧Wd d),.bool (.sym (decide (V4 a b c d=one4))))
 | _,_=>none
theorem io_ok (args:List SV) (l:List (Nat×Reg)) (p:Ob) (v:SV) (h:rIo args l=some (p,v)) (hp:p.ok):∃U,execF cx0 U Tryz.f131 64 args (memL l) fun v' _=>∀β u,Den β v' u→Den β v u:=by
 unfold rIo at h
 split at h
 ·obtain ⟨a,b,c,d,rfl,q⟩:=r4_ex h
  simp only[Option.some.injEq,Prod.mk.injEq]at q
  obtain ⟨rfl,rfl⟩:=q
  have hw:Wd a∧Wd b∧Wd c∧Wd d:=hp
  refine ⟨u0,?_⟩
  have v:=vc_iso a b c d fun v' _=>∀β u,Den β v' u→Den β (.bool (.sym (decide (V4 a b c d=one4)))) u
  rw[v]
  intro x0 h0 x1 h1 x2 h2 x3 h3 x4 h4 x5 h5 x6 h6
  refine den_bool ?_
  show (x6==0)=_
  rw[Bool.eq_iff_iff,beq_iff_eq,decide_eq_true_eq]
  exact (ne_chain hw one_wd h0 h1 h2 h3 h4 h5 h6).2
 ·cases h
def cIo:Rd Tryz.prog:=mkQ mixed 131 Tryz.func131 (by decide) (by kernel_rfl) [] [.ptr 4 true] rIo io_ok
def neW (a0 a1 a2 a3 b0 b1 b2 b3:Int):Int:=bor .u64 (bor .u64 (bor .u64 (bxor .u64 a3 b3) (bxor .u64 a2 b2)) (bxor .u64 a1 b1)) (bxor .u64 a0 b0)
theorem neW_zero {a0 a1 a2 a3 b0 b1 b2 b3:Int} (ha:Wd a0∧Wd a1∧Wd a2∧Wd a3) (hb:Wd b0∧Wd b1∧Wd b2∧Wd b3):neW a0 a1 a2 a3 b0 b1 b2 b3=0↔V4 a0 a1 a2 a3=V4 b0 b1 b2 b3:=
 (ne_chain ha hb rfl rfl rfl rfl rfl rfl rfl).2
def rNe:R0:=fun args l=>
 match args,l with
 | [.ptr 1 (.lit 0),.ptr 9 (.lit 0)],[(1,⟨true,x⟩),(9,⟨true,y⟩)]=>r4 x fun a b c d=>r4 y fun a' b' c' d'=>some (none,.int .u64 (.sym (neW a b c d a' b' c' d')))
 | _,_=>none
theorem ne_ok (args:List SV) (l:List (Nat×Reg)) (p:Ob) (v:SV) (h:rNe args l=some (p,v)) (hp:p.ok):∃U,execF cx0 U Tryz.f135 64 args (memL l) fun v' _=>v'=v:=by
 unfold rNe at h
 split at h
 ·obtain ⟨a,b,c,d,rfl,q⟩:=r4_ex h
  obtain ⟨a',b',c',d',rfl,q2⟩:=r4_ex q
  simp only[Option.some.injEq,Prod.mk.injEq]at q2
  obtain ⟨rfl,rfl⟩:=q2
  refine ⟨u0,?_⟩
  rw[vc_ne a b c d a' b' c' d']
  rintro _ rfl _ rfl _ rfl _ rfl _ rfl _ rfl _ rfl
  rfl
 ·cases h
def cNe:Rd Tryz.prog:=mkR mixed 135 Tryz.func135 (by decide) (by kernel_rfl) [] [.ptr 4 true,.ptr 4 true] rNe ne_ok
def cxEq:Cx Tryz.prog:= { rds:= [cNe],efs:= [],eqs:= [] }
theorem vc_eq (a0 a1 a2 a3 b0 b1 b2 b3:Int) (K:SV→Mem→Prop):(execF cxEq u0 Tryz.f88 64 [.ptr 1 (.lit 0),.ptr 9 (.lit 0)] (memL [(1,⟨true,w4 a0 a1 a2 a3⟩),(9,⟨true,w4 b0 b1 b2 b3⟩)]) K)=(∀x,x=neW a0 a1 a2 a3 b0 b1 b2 b3
 →K (.bool (.sym (x==0))) (memL [(1,⟨true,w4 a0 a1 a2 a3⟩),(9,⟨true,w4 b0 b1 b2 b3⟩)])):=by kernel_rfl
def rEq:R0:=fun args l=>
 match args,l with
 | [.ptr 1 (.lit 0),.ptr 9 (.lit 0)],[(1,⟨true,x⟩),(9,⟨true,y⟩)]=>r4 x fun a b c d=>r4 y fun a' b' c' d'=>some (some ((Wd a∧Wd b∧Wd c∧Wd d)∧Wd a'∧Wd b'∧Wd c'∧Wd d'),.bool (.sym (decide (V4 a b c d=V4 a' b' c' d'))))
 | _,_=>none
theorem eq_ok (args:List SV) (l:List (Nat×Reg)) (p:Ob) (v:SV) (h:rEq args l=some (p,v)) (hp:p.ok):∃U,execF cxEq U Tryz.f88 64 args (memL l) fun v' _=>∀β u,Den β v' u→Den β v u:=by
 unfold rEq at h
 split at h
 ·obtain ⟨a,b,c,d,rfl,q⟩:=r4_ex h
  obtain ⟨a',b',c',d',rfl,q2⟩:=r4_ex q
  simp only[Option.some.injEq,Prod.mk.injEq]at q2
  obtain ⟨rfl,rfl⟩:=q2
  obtain ⟨ha,hb⟩:(Wd a∧Wd b∧Wd c∧Wd d)∧Wd a'∧Wd b'∧Wd c'∧Wd d':=hp
  refine ⟨u0,?_⟩
  rw[vc_eq a b c d a' b' c' d']
  rintro x rfl
  refine den_bool ?_
  show (neW _ _ _ _ _ _ _ _==0)=_
  rw[Bool.eq_iff_iff,beq_iff_eq,decide_eq_true_eq,neW_zero ha hb]
 ·cases h
def cEq:Rd Tryz.prog:=mkQ mixed 88 Tryz.func88 (by decide) (by kernel_rfl) [] [.ptr 4 true,.ptr 4 true] rEq eq_ok
end Go.Sx
