/- Part of the proof that laws.FnRawTokens returns true for every argument. No conditions. -/
import Derived.Test.YtdjdjbpnbjdaaaaGreatDoorP05
import Derived.OrdersHeld
import Derived.Test.YtdjdjbpnbjdaaaaGreatDoorP13
import Derived.Test.YtdjdjbpnbjdaaaaGreatDoorP24
import Derived.Test.YtdjdjbpnbjdaaaaGreatDoorP27
set_option linter.all false
set_option maxHeartbeats 8000000
set_option maxRecDepth 100000
namespace Go.Proofs.YtdjdjbpnbjdaaaaGreatDoor
open Go Tryz
section
variable {P:Program} {ops:Array Oper} {md:Region.Mode} {L:List Nat} {D:World→Prop}
def NJ (P:Program) (ops:Array Oper) (L:List Nat) (D:World→Prop) (Q:Exit→Act→World→Prop) (i:Nat) (K:Act→World→Prop) (a:Act) (w:World):Prop:=
 match ops[i]? with
 | none=>False
 | some o=>match L.getD i 2 with
  | 0=>∃ v,Yields P ops o v a∧K (a.put o.dst v) w
  | 1=>D w∧∃ v,YieldsIf P ops D o v a∧K (a.put o.dst v) w
  | 2=>wpOp P ops Q i K a w
  | _=>wpOp P ops Q i (fun a' w'=>D w'∧K a' w') a w
theorem D4 {Q:Exit→Act→World→Prop} {i:Nat} {K K':Act→World→Prop} {a:Act} {w:World} (h:∀ a w,K a w→K' a w) (hh:NJ P ops L D Q i K a w):NJ P ops L D Q i K' a w:=by
 unfold NJ at *
 split
 ·simp_all
 ·rename_i o ho
  simp only [ho] at hh
  split at hh
  ·obtain ⟨v,h1,h2⟩:=hh;exact ⟨v,h1,h _ _ h2⟩
  ·obtain ⟨h0,v,h1,h2⟩:=hh;exact ⟨h0,v,h1,h _ _ h2⟩
  ·exact wpOp_mono h hh
  ·exact wpOp_mono (fun a' w' h3=>⟨h3.1,h _ _ h3.2⟩) hh
def sK (P:Program) (md:Region.Mode) (ops:Array Oper) (L:List Nat) (D:World→Prop) (Q:Exit→Act→World→Prop):Nat→Array Bool→Act→World→Prop
 | 0,listed,a,w=>Region.ready md ops listed=[]∧Q .normal a w
 | fuel+1,listed,a,w=>
  (Region.ready md ops listed=[]→Q .normal a w) ∧
  ∀ i∈Region.ready md ops listed,NJ P ops L D Q i (sK P md ops L D Q fuel (listed.setIfInBounds i true)) a w
theorem oU {Q:Exit→Act→World→Prop}:∀ (fuel:Nat) (listed:Array Bool) (a:Act) (w:World),sK P md ops L D Q fuel listed a w→wpAny P md ops Q fuel listed a w
 | 0,_,_,_,h=>h
 | fuel+1,_,_,w,h=>⟨h.1,fun i hi=>by
  have h1:=h.2 i hi
  unfold NJ at h1
  split at h1
  ·exact h1.elim
  ·rename_i o ho
   split at h1
   ·obtain ⟨v,hy,hK⟩:=h1
    exact hy.wpOp ho (oU fuel _ _ w hK)
   ·obtain ⟨hD,v,hy,hK⟩:=h1
    exact hy.wpOp ho hD (oU fuel _ _ w hK)
   ·exact wpOp_mono (fun a' w' h2=>oU fuel _ _ w' h2) h1
   ·exact wpOp_mono (fun a' w' h2=>oU fuel _ _ w' h2.2) h1⟩
structure BE (md:Region.Mode) (ops:Array Oper) (L:List Nat) (i:Nat) (wt:Nat→Bool) (listed:Array Bool):Prop where
 out:∀ j,wt j=true→listed.getD j false=false
 cov:∀ j,j≠i→listed.getD j true=false→L.getD j 2=2→wt j=true
theorem BE.not_ready {i j:Nat} {wt:Nat→Bool} {listed:Array Bool} (hs:oD md ops i wt) (h:BE md ops L i wt listed) (hi:listed.getD i true=false) (hj:j∈Region.ready md ops listed):wt j=false:=by
 cases hw:wt j with
 | false=>rfl
 | true=>
  obtain ⟨oj,I0,e,he,hb,ho⟩:=hs j hw
  obtain ⟨_,o,ho',BQ⟩:=mem_ready.1 hj
  have:o=oj:=Option.some.inj (ho'.symm.trans I0)
  subst this
  have h1:=BQ e he hb
  rcases ho with ho|ho
  ·rw [ho,pJ hi] at h1;cases h1
  ·rw [h.out _ ho] at h1;cases h1
theorem BE.set {i j:Nat} {wt:Nat→Bool} {listed:Array Bool} (h:BE md ops L i wt listed) (hj:wt j=false):BE md ops L i wt (listed.setIfInBounds j true):=by
 refine ⟨fun k hk=>?_,fun k hk hu hl=>?_⟩
 ·have:j≠k:=fun e=>by subst e;rw [hj] at hk;cases hk
  rw [getD_set_ne false this];exact h.out k hk
 ·by_cases X9:j=k
  ·subst X9
   rcases Nat.lt_or_ge j listed.size with h'|h'
   ·simp [h'] at hu
   ·simp at hu
  ·rw [getD_set_ne true X9] at hu
   exact h.cov k hk hu hl
theorem yI {Q:Exit→Act→World→Prop} {i:Nat} {oi:Oper} {v:Value} (hi:ops[i]?=some oi) (YA:∀ (j:Nat) (o:Oper) cs b,ops[j]?=some o→o.op≠.select cs b)
  (hQ:∀ c a w,Q (.panic c) (a.put oi.dst v) w→Q (.panic c) a w) (wt:Nat→Bool) (mX:L.getD i 2=1→oD md ops i wt) (hc:L.getD i 2=0∨L.getD i 2=1) :
  ∀ (fuel:Nat) (listed:Array Bool) (a:Act) (w:World),
   (∀ j oj,ops[j]?=some oj→j≠i→listed.getD j true=false→(∀ e∈oj.after,Region.binds md e=true→e.on≠i)→oi.apart ops oj=true) →
   (L.getD i 2=1→BE md ops L i wt listed) →
   i∈Region.ready md ops listed→(L.getD i 2=0→Yields P ops oi v a)→(L.getD i 2=1→D w∧YieldsIf P ops D oi v a) →
   sK P md ops L D Q fuel (listed.setIfInBounds i true) (a.put oi.dst v) w→sK P md ops L D Q (fuel+1) listed a w:=by
 intro fuel
 have self:∀ (fuel:Nat) (listed:Array Bool) (a:Act) (w:World),(L.getD i 2=0→Yields P ops oi v a)→(L.getD i 2=1→D w∧YieldsIf P ops D oi v a) →
   sK P md ops L D Q fuel (listed.setIfInBounds i true) (a.put oi.dst v) w→NJ P ops L D Q i (sK P md ops L D Q fuel (listed.setIfInBounds i true)) a w:=by
  intro fuel listed a w h0 h1 H
  unfold NJ
  simp only [hi]
  rcases hc with hc|hc
  ·simp only [hc];exact ⟨v,h0 hc,H⟩
  ·simp only [hc];exact ⟨(h1 hc).1,v,(h1 hc).2,H⟩
 induction fuel with
 | zero=>
  intro listed a w _ _ hr h0 h1 H
  refine ⟨fun h=>(by rw [h] at hr;cases hr),fun j hj=>?_⟩
  by_cases tF:j=i
  ·subst tF;exact self _ _ _ _ h0 h1 H
  ·have:=ready_mono hj tF
   rw [H.1] at this
   cases this
 | succ fuel ih=>
  intro listed a w qO Gr hr h0 h1 H
  refine ⟨fun h=>(by rw [h] at hr;cases hr),fun j hj=>?_⟩
  by_cases tF:j=i
  ·subst tF;exact self _ _ _ _ h0 h1 H
  ·have hh:=H.2 j (ready_mono hj tF)
   obtain ⟨PA,oj,I0,BQ⟩:=mem_ready.1 hj
   have PB:=(mem_ready.1 hr).1
   have Qx:∀ e∈oj.after,Region.binds md e=true→e.on≠i:=fun e he hb CZ=>by
    have h1:=BQ e he hb
    rw [CZ,pJ PB] at h1
    cases h1
   have Qy:=qO j oj I0 tF PA Qx
   have rZ:∀ k ok,ops[k]?=some ok→k≠i→(listed.setIfInBounds j true).getD k true=false →
     (∀ e∈ok.after,Region.binds md e=true→e.on≠i)→oi.apart ops ok=true:=fun k ok hk Xq iW jL=>by
    refine qO k ok hk Xq ?_ jL
    by_cases X9:j=k
    ·subst X9;exact PA
    ·rw [getD_set_ne true X9] at iW;exact iW
   have I1:L.getD i 2=1→BE md ops L i wt (listed.setIfInBounds j true):=fun h=>(Gr h).set ((Gr h).not_ready (mX h) PB hj)
   have C0:=ready_mono hr (Ne.symm tF)
   obtain ⟨p1,p2,p3⟩:=Oper.apart_spec Qy
   have Gs:=fun cs b=>YA i oi cs b hi
   have Gt:=fun cs b=>YA j oj cs b I0
   have keep0:∀ (a:Act),(L.getD i 2=0→Yields P ops oi v a)→∀ u,(L.getD i 2=0→Yields P ops oi v (a.put oj.dst u)):=fun a hy u h=>
    (hy h).of_same (execOp_put oi Gs a oj.dst u p3) (wanted_put oi a oj.dst u p3)
   have keep1:∀ (a:Act),(L.getD i 2=1→D w∧YieldsIf P ops D oi v a)→∀ u,(L.getD i 2=1→D w∧YieldsIf P ops D oi v (a.put oj.dst u)):=fun a hy u h=>
    ⟨(hy h).1,(hy h).2.of_same (execOp_put oi Gs a oj.dst u p3) (wanted_put oi a oj.dst u p3)⟩
   unfold NJ at hh ⊢
   simp only [I0] at hh ⊢
   split
   ·rename_i Ex
    simp only [Ex] at hh
    obtain ⟨u,hy,hK⟩:=hh
    refine ⟨u,hy.of_same (execOp_put oj Gt a oi.dst v p1).symm (wanted_put oj a oi.dst v p1).symm,ih _ _ _ rZ I1 C0 (keep0 a h0 u) (keep1 a h1 u) ?_⟩
    rw [Array.setIfInBounds_comm _ _ tF,←Act.put_comm a v u p2]
    exact hK
   ·rename_i Ex
    simp only [Ex] at hh
    obtain ⟨hD,u,hy,hK⟩:=hh
    refine ⟨hD,u,hy.of_same (execOp_put oj Gt a oi.dst v p1).symm (wanted_put oj a oi.dst v p1).symm,ih _ _ _ rZ I1 C0 (keep0 a h0 u) (keep1 a h1 u) ?_⟩
    rw [Array.setIfInBounds_comm _ _ tF,←Act.put_comm a v u p2]
    exact hK
   ·rename_i Ex
    simp only [Ex] at hh
    rcases hc with hc|hc
    ·refine wpOp_mono (fun a' w' h3=>?_) (wpOp_put I0 Qy Gs Gt hQ (h0 hc) hh)
     refine ih _ _ _ rZ I1 C0 (fun _=>h3.1) (fun h=>by rw [hc] at h;cases h) ?_
     rw [Array.setIfInBounds_comm _ _ tF]
     exact h3.2
    ·have h2:=(Gr hc).not_ready (mX hc) PB hj
     rw [(Gr hc).cov j tF PA Ex] at h2
     cases h2
   ·rename_i n0 n1 n2
    split at hh
    ·exact absurd (by assumption) n0
    ·exact absurd (by assumption) n1
    ·exact absurd (by assumption) n2
    ·rcases hc with hc|hc
     ·refine wpOp_mono (fun a' w' h3=>?_) (wpOp_put I0 Qy Gs Gt hQ (h0 hc) hh)
      refine ⟨h3.2.1,ih _ _ _ rZ I1 C0 (fun _=>h3.1) (fun h=>by rw [hc] at h;cases h) ?_⟩
      rw [Array.setIfInBounds_comm _ _ tF]
      exact h3.2.2
     ·refine wpOp_mono (fun a' w' h3=>?_) (wpOp_putIf I0 Qy Gs Gt hQ (h1 hc).2 hh)
      refine ⟨h3.2.1,ih _ _ _ rZ I1 C0 (fun h=>by rw [hc] at h;cases h) (fun _=>⟨h3.2.1,h3.1⟩) ?_⟩
      rw [Array.setIfInBounds_comm _ _ tF]
      exact h3.2.2
inductive PT where
 | nil
 | one (k:Nat) (t:PT)
 | two (i j:Nat) (ti tj:PT)
def J3 (md:Region.Mode) (ops:Array Oper) (L:List Nat) (listed:Array Bool) (i:Nat):Bool:=
 let wt:=mT md ops i
 decide (wt.size=ops.size)&&(List.range ops.size).all fun j=>
  (j==i||listed.getD j true||!(L.getD j 2==2)||wt.getD j false) &&
  (!wt.getD j false||(!listed.getD j false&&match ops[j]? with
   | some oj=>oj.after.any fun e=>Region.binds md e&&(e.on==i||wt.getD e.on false)
   | none=>false))
theorem J4 {listed:Array Bool} {i:Nat} (h:J3 md ops L listed i=true):oD md ops i (fun j=>(mT md ops i).getD j false)∧(listed.size=ops.size→BE md ops L i (fun j=>(mT md ops i).getD j false) listed):=by
 simp only [J3,Bool.and_eq_true,decide_eq_true_eq,List.all_eq_true,List.mem_range] at h
 obtain ⟨hs,h⟩:=h
 have inr:∀ j,(mT md ops i).getD j false=true→j<ops.size:=fun j hj=>by
  rcases Nat.lt_or_ge j (mT md ops i).size with h'|h'
  ·omega
  ·simp [Array.getElem?_eq_none h'] at hj
 refine ⟨fun j hj=>?_,fun hz=>⟨fun j hj=>?_,fun j tF iW hl=>?_⟩⟩
 ·have h1:=(h j (inr j hj)).2
  simp only [hj,Bool.not_true,Bool.false_or,Bool.and_eq_true] at h1
  have h2:=h1.2
  split at h2
  ·rename_i oj I0
   obtain ⟨e,he,hb⟩:=Array.any_eq_true'.1 h2
   simp only [Bool.and_eq_true,Bool.or_eq_true,beq_iff_eq] at hb
   exact ⟨oj,I0,e,he,hb.1,hb.2⟩
  ·cases h2
 ·have h1:=(h j (inr j hj)).2
  simp only [hj,Bool.not_true,Bool.false_or,Bool.and_eq_true,Bool.not_eq_true'] at h1
  exact h1.1
 ·have hj:j<ops.size:=by
   rcases Nat.lt_or_ge j listed.size with h'|h'
   ·omega
   ·simp [Array.getElem?_eq_none h'] at iW
  have h1:=(h j hj).1
  rw [hl] at h1
  simp only [Bool.or_eq_true,beq_iff_eq,tF,iW,BEq.rfl,Bool.not_true,Bool.false_eq_true,false_or,or_false] at h1
  exact h1
def pS (md:Region.Mode) (ops:Array Oper) (L:List Nat):PT→Nat→Array Bool→Bool
 | .nil,n,listed=>n==0&&(Region.ready md ops listed).isEmpty
 | .one k t,n,listed=>decide (0<n)&&(Region.ready md ops listed).contains k&&(match L.getD k 2 with
   | 0=>Region.free md ops listed k
   | 1=>Region.free md ops listed k&&J3 md ops L listed k
   | _=>Region.ready md ops listed==[k])&&pS md ops L t (n-1) (listed.setIfInBounds k true)
 | .two i j ti tj,n,listed=>decide (0<n)&&Region.ready md ops listed==[i,j]&&pS md ops L ti (n-1) (listed.setIfInBounds i true)&&pS md ops L tj (n-1) (listed.setIfInBounds j true)
def nY (P:Program) (ops:Array Oper) (L:List Nat) (D:World→Prop) (Q:Exit→Act→World→Prop):PT→Act→World→Prop
 | .nil,a,w=>Q .normal a w
 | .one k t,a,w=>NJ P ops L D Q k (nY P ops L D Q t) a w
 | .two i j ti tj,a,w=>NJ P ops L D Q i (nY P ops L D Q ti) a w∧NJ P ops L D Q j (nY P ops L D Q tj) a w
theorem vJ {Q:Exit→Act→World→Prop} (hs:Region.noSelect ops=true) (hQ:∀ c a w,¬ Q (.panic c) a w):∀ (t:PT) (n:Nat) (listed:Array Bool) (a:Act) (w:World),listed.size=ops.size →
  pS md ops L t n listed=true→nY P ops L D Q t a w→sK P md ops L D Q n listed a w
 | .nil,n,listed,a,w,_,hB,h=>by
  simp only [pS,Bool.and_eq_true,beq_iff_eq,List.isEmpty_iff] at hB
  obtain ⟨rfl,hB⟩:=hB
  exact ⟨hB,h⟩
 | .one k t,n,listed,a,w,hz,hB,h=>by
  simp only [pS,Bool.and_eq_true,decide_eq_true_eq] at hB
  obtain ⟨⟨⟨hn,hr⟩,hf⟩,hB'⟩:=hB
  obtain ⟨n,rfl⟩:∃ m,n=m+1:=⟨n-1,by omega⟩
  have C0:k∈Region.ready md ops listed:=by simpa using hr
  have Zj:(listed.setIfInBounds k true).size=ops.size:=by simpa using hz
  have Qz:=fun a' w'=>vJ hs hQ t n (listed.setIfInBounds k true) a' w' Zj hB'
  have h':NJ P ops L D Q k (sK P md ops L D Q n (listed.setIfInBounds k true)) a w:=D4 Qz h
  have single:Region.ready md ops listed=[k]→sK P md ops L D Q (n+1) listed a w:=fun YB=>
   ⟨fun hh=>(by rw [YB] at hh;cases hh),fun i hi=>by
    rw [YB] at hi
    have:i=k:=by simpa using hi
    subst this
    exact h'⟩
  have h2:=h'
  unfold NJ at h2
  split at h2
  ·exact h2.elim
  ·rename_i o ho
   split at h2
   ·rename_i hc
    simp only [hc] at hf
    obtain ⟨v,hy,hK⟩:=h2
    exact yI ho (Region.noSelect_spec hs) (fun c a w hh=>(hQ _ _ _ hh).elim) (fun _=>false) (fun hh=>by rw [hc] at hh;cases hh) (.inl hc) _ _ _ _ (Region.free_spec ho hf)
     (fun hh=>by rw [hc] at hh;cases hh) C0 (fun _=>hy) (fun hh=>by rw [hc] at hh;cases hh) hK
   ·rename_i hc
    simp only [hc,Bool.and_eq_true] at hf
    obtain ⟨hD,v,hy,hK⟩:=h2
    obtain ⟨w1,w2⟩:=J4 hf.2
    exact yI ho (Region.noSelect_spec hs) (fun c a w hh=>(hQ _ _ _ hh).elim) _ (fun _=>w1) (.inr hc) _ _ _ _ (Region.free_spec ho hf.1)
     (fun _=>w2 hz) C0 (fun hh=>by rw [hc] at hh;cases hh) (fun _=>⟨hD,hy⟩) hK
   ·rename_i hc
    simp only [hc] at hf
    exact single (by simpa using hf)
   ·rename_i n0 n1 n2
    refine single ?_
    split at hf
    ·exact absurd (by assumption) n0
    ·exact absurd (by assumption) n1
    ·simpa using hf
 | .two i j ti tj,n,listed,a,w,hz,hB,h=>by
  simp only [pS,Bool.and_eq_true,decide_eq_true_eq,beq_iff_eq] at hB
  obtain ⟨⟨⟨hn,hr⟩,hBi⟩,hBj⟩:=hB
  obtain ⟨n,rfl⟩:∃ m,n=m+1:=⟨n-1,by omega⟩
  refine ⟨fun hh=>(by rw [hr] at hh;cases hh),fun k hk=>?_⟩
  rw [hr] at hk
  simp only [List.mem_cons,List.not_mem_nil,or_false] at hk
  rcases hk with rfl|rfl
  ·exact D4 (fun a' w'=>vJ hs hQ ti n _ a' w' (by simpa using hz) hBi) h.1
  ·exact D4 (fun a' w'=>vJ hs hQ tj n _ a' w' (by simpa using hz) hBj) h.2
theorem J6 {id:Nat} {Q:Exit→Act→World→Prop} {a:Act} {w:World} {l:List Oper} (L:List Nat) (t:PT) (D:World→Prop) (hm:P.follows .mixedOrders=true)
  (hB:(Region.noSelect l.toArray&&pS .any l.toArray L t l.length (Array.replicate l.length false))=true)
  (h:nY P l.toArray L D (NoPanic Q) t a w.drew):(Code.region id l.toArray true).wp P Q a w:=by
 simp only [Bool.and_eq_true] at hB
 obtain ⟨hs,hp⟩:=hB
 refine wp_region_noPanic (wp_region_any hm ?_)
 have:=vJ (md:=.any) hs (fun c a w hh=>hh) t l.length (Array.replicate l.length false) a w.drew (by simp) hp h
 have h2:=oU (md:=.any) _ _ _ _ this
 simpa using h2
theorem NK {Q:Exit→Act→World→Prop} {a:Act} {w:World} (h:Q .normal a w):nY P ops L D (NoPanic Q) .nil a w:=NoPanic.normal h
theorem GW {Q:Exit→Act→World→Prop} {a:Act} {w:World} {k:Nat} {t:PT} {o:Oper} (ho:ops[k]?=some o) (hc:L.getD k 2=0)
  (h:∀ K:Act→Prop,(∀ a,nY P ops L D Q t a w→K a)→if Region.wanted o (yielded ops a.tmps) then O9 P o a K else K (a.put o.dst undef)):nY P ops L D Q (.one k t) a w:=by
 have:=h (fun a'=>nY P ops L D Q t a' w) (fun _ h=>h)
 simp only [nY,NJ,ho,hc]
 split at this
 ·rename_i hw
  obtain ⟨v,h1,h2⟩:=this
  refine ⟨v,.inl ⟨hw,fun w=>?_⟩,h2⟩
  have h3:=h1 w
  unfold wU at h3
  generalize (execOp a.eval o).run P w=r at *
  cases r with
  | ok n w'=>cases n<;>simp only [mY] at h3;rw [h3.1,h3.2]
  | halt x w'=>simp only [mY] at h3
 ·rename_i hw
  exact ⟨undef,.inr ⟨by simpa using hw,rfl⟩,this⟩
def Vf (P:Program) (D:World→Prop) (o:Oper) (a:Act) (next:Act→Prop):Prop:=∃ v,(∀ w,D w→wU P o a w v)∧next (a.put o.dst v)
theorem V3 {Q:Exit→Act→World→Prop} {a:Act} {w:World} {k:Nat} {t:PT} {o:Oper} (ho:ops[k]?=some o) (hc:L.getD k 2=1) (hD:D w)
  (h:if Region.wanted o (yielded ops a.tmps) then Vf P D o a (fun a'=>nY P ops L D Q t a' w) else nY P ops L D Q t (a.put o.dst undef) w):nY P ops L D Q (.one k t) a w:=by
 simp only [nY,NJ,ho,hc]
 refine ⟨hD,?_⟩
 split at h
 ·rename_i hw
  obtain ⟨v,h1,h2⟩:=h
  refine ⟨v,.inl ⟨hw,fun w hw=>?_⟩,h2⟩
  have h3:=h1 w hw
  unfold wU at h3
  generalize (execOp a.eval o).run P w=r at *
  cases r with
  | ok n w'=>cases n<;>simp only [mY] at h3;rw [h3.1,h3.2]
  | halt x w'=>simp only [mY] at h3
 ·rename_i hw
  exact ⟨undef,.inr ⟨by simpa using hw,rfl⟩,h⟩
theorem D5 {Q:Exit→Act→World→Prop} {a:Act} {w:World} {k:Nat} {t:PT} {o:Oper} (ho:ops[k]?=some o) (hc:L.getD k 2=2)
  (h:∀ (K:Act→World→Prop),Shut (∀ a' w',nY P ops L D Q t a' w'→K a' w')→if Region.wanted o (yielded ops a.tmps)=true then Oper.wp P o a w K Q else K (a.put o.dst undef) w) :
  nY P ops L D Q (.one k t) a w:=by
 simp only [nY,NJ,ho,hc]
 exact wpOp_mono (fun a' w' h'=>h') (wpOp_step ho fun K' hK=>h K' hK)
theorem V4 {Q:Exit→Act→World→Prop} {a:Act} {w:World} {k:Nat} {t:PT} {o:Oper} (ho:ops[k]?=some o) (hc:L.getD k 2=3)
  (h:∀ (K:Act→World→Prop),Shut (∀ a' w',D w'→nY P ops L D Q t a' w'→K a' w')→if Region.wanted o (yielded ops a.tmps)=true then Oper.wp P o a w K Q else K (a.put o.dst undef) w) :
  nY P ops L D Q (.one k t) a w:=by
 simp only [nY,NJ,ho,hc]
 exact wpOp_mono (fun a' w' h'=>h') (wpOp_step ho fun K' hK=>h K' (fun a' w' h1 h2=>hK a' w' ⟨h1,h2⟩))
theorem BF {o:Oper} (hg:o.guard=none) (y:Nat→Option Bool):Region.wanted o y=true:=by
 unfold Region.wanted;rw [hg]
theorem D6 {Q:Exit→Act→World→Prop} {a:Act} {w:World} {k:Nat} {t:PT} {o:Oper} (ho:ops[k]?=some o) (hc:L.getD k 2=1) (hD:D w) (hg:o.guard=none) (d:Option Tmp) (hd:o.dst=d) (v:Value) (hv:∀ w',D w'→wU P o a w' v)
  (h:nY P ops L D Q t (a.put d v) w):nY P ops L D Q (.one k t) a w:=by
 subst hd
 refine V3 ho hc hD ?_
 rw [if_pos (BF hg _)]
 exact ⟨v,hv,h⟩
theorem Ce {Q:Exit→Act→World→Prop} {a:Act} {w w':World} {k:Nat} {t:PT} {o:Oper} (ho:ops[k]?=some o) (hc:L.getD k 2=2) (hg:o.guard=none) (d:Option Tmp) (hd:o.dst=d) (s x:Operand) (t1 t2:TypeId) (Cf:o.op=.call { callee:=.builtin .append,args:=#[s,x],argTypes:=#[t1,t2] }) (vs vx v':Value)
  (hs:a.eval s=vs) (hx:a.eval x=vx) (gA:(Builtin.append_ #[t1,t2] o.type #[vs,vx]).run P w=.ok v' w') (h:nY P ops L D Q t (a.put d v') w'):nY P ops L D Q (.one k t) a w:=by
 subst hd
 refine D5 ho hc (fun K hK=>?_)
 rw [if_pos (BF hg _)]
 unfold Oper.wp
 simp only [execOp,Cf,resolve,invoke,builtin]
 simp [hs,hx,gA,Result.andThen]
 exact hK.out _ _ h
end
end Go.Proofs.YtdjdjbpnbjdaaaaGreatDoor
namespace Go.Proofs.YtdjdjbpnbjdaaaaGreatDoor
open Go Go.RowKit Tryz
theorem yJ {e t:TypeId} {z:Value} {size bytes:Nat} (a2I:(prog.info? e).map (fun i=>(i.zero,i.size,i.bytes))=some (some z,size,bytes)) (ht:prog.underlying t=some (.slice e)) (hzs:z.cells.size=size) (gE:0<size) (a4j:bytes≤100)
  (W:World) (base:Nat) (hb:base≤W.heap.size) (v:Value) (n:Nat) (hn:n≤1000000000) (xs:List Value) (h:W.ownsRow base e size v n xs) (b:Nat) (cells:List Value) (hl:cells.length=size) (gR:∀ j u,cells[j]?=some u→W.cell? ⟨b,j,none⟩=some u) (h1:∀ u∈cells,u.oneCell'=true) :
  ∃ v' w4,(Builtin.append_ #[t,t] t #[v,.slice (some ⟨b,0,none⟩) 1 1]).run prog W=.ok v' w4∧w4.ownsRow base e size v' (n+1) (xs++cells)∧aK (fun k=>v.ownBlock=some k) W w4∧(v'.ownBlock=v.ownBlock∨v'.ownBlock=some W.heap.size)∧∃ g cap,v'=.slice (some ⟨g,0,none⟩) (n+1) cap:=by
 obtain ⟨i,hi,hz,h2,h3⟩:=info_parts a2I
 obtain ⟨v',w4,hr,ho,hg,_,eC⟩:=run_append_own_at (P:=prog) W base t t e i z size bytes ht hi hz h2 h3 hzs gE v n xs h ⟨b,0,none⟩ 1 1 cells (by omega)
  (fun j u hj=>by rw [show ((⟨b,0,none⟩:Addr).add j)=⟨b,j,none⟩ by cases j<;>simp [Addr.add]];exact gR j u hj) h1 (by unfold maxLen;omega)
  (by
   have h9:(n+1)*bytes≤(n+1)*100:=Nat.mul_le_mul_left _ a4j
   omega) hb
 refine ⟨v',w4,hr,ho,⟨hg.os,hg.tape,hg.output,hg.size,fun k hk hn=>hg.block k hk (fun he=>hn he.symm)⟩,eC,?_⟩
 rcases ho.2 with ⟨_,h9⟩|⟨g,cap,cur,h9,_⟩
 ·omega
 ·exact ⟨g,cap,h9⟩
def q9 (x:PX) (c:PC) (k:Nat):Prop:=k=x.p∨c.out.ownBlock=some k∨c.op.ownBlock=some k∨c.bd.ownBlock=some k
def eW (l:aO):List Value:=l.flatMap fun p=>[aB p.1,aB p.2]
def Cg (w:World) (base:Nat) (G:Nat→Prop) (l:aO) (ys:List Value):Prop:=
 ∃ sa sl sc,ys=[.slice sa sl sc]∧w.ownsRow base 170 2 (.slice sa sl sc) l.length (eW l)∧(∀ k,(Value.slice sa sl sc).ownBlock=some k→G k)∧l.length≤1000000000
structure hY (x:PX) (base:Nat) (w:World) (c:PC) (opens:List Bs) (bound:List aO) (out:List cH):Prop where
 blk:aU x w c
 pb:base≤x.p
 out:∃ xs,w.ownsRow base 61 6 c.out out.length xs∧cS (lB w base (fun k=>¬ q9 x c k)) out xs
 op:∃ xs,w.ownsRow base 9 1 c.op opens.length xs∧cS (fun b ys=>ys=[aB b]) opens.reverse xs
 bd:∃ xs,w.ownsRow base 37 1 c.bd bound.length xs∧cS (Cg w base (fun k=>¬ q9 x c k)) bound.reverse xs
 s1:c.out.ownBlock≠some x.p∧c.op.ownBlock≠some x.p∧c.bd.ownBlock≠some x.p
 s2:∀ k,c.out.ownBlock=some k→c.op.ownBlock≠some k∧c.bd.ownBlock≠some k
 s3:∀ k,c.op.ownBlock=some k→c.bd.ownBlock≠some k
theorem hY.size {x:PX} {base:Nat} {w:World} {c:PC} {opens:List Bs} {bound:List aO} {out:List cH} (h:hY x base w c opens bound out):base≤w.heap.size:=by
 have h1:=h.pb
 have h2:=aJ.lt h.blk
 omega
theorem hY.busy {x:PX} {base:Nat} {w:World} {c:PC} {opens:List Bs} {bound:List aO} {out:List cH} (h:hY x base w c opens bound out) {k:Nat} (hk:q9 x c k):base≤k∧k<w.heap.size:=by
 obtain ⟨_,ho,_⟩:=h.out
 obtain ⟨_,hp,_⟩:=h.op
 obtain ⟨_,hb,_⟩:=h.bd
 rcases hk with rfl|hk|hk|hk
 ·exact ⟨h.pb,aJ.lt h.blk⟩
 ·exact ⟨(aV ho hk).2,(aV ho hk).1⟩
 ·exact ⟨(aV hp hk).2,(aV hp hk).1⟩
 ·exact ⟨(aV hb hk).2,(aV hb hk).1⟩
theorem Cg.mod {w w':World} {base:Nat} {G G':Nat→Prop} {l:aO} {ys:List Value} {S:Nat→Prop} (h:Cg w base G l ys) (hm:aK S w w') (hG:∀ k,G k→k<w.heap.size→¬ S k∧G' k):Cg w' base G' l ys:=by
 obtain ⟨sa,sl,sc,rfl,hr,hg,hl⟩:=h
 exact ⟨sa,sl,sc,rfl,aG hr hm (fun k hk=>(hG k (hg k hk) (aV hr hk).1).1),fun k hk=>(hG k (hg k hk) (aV hr hk).1).2,hl⟩
theorem hY.own2 {x:PX} {base:Nat} {w w':World} {c c':PC} {opens opens':List Bs} {bound bound':List aO} {out:List cH} (h:hY x base w c opens bound out) (hp:aU x w' c') (hm:aK (fun k=>k=x.p) w w') (h1:c'.out=c.out) (h2:c'.op.ownBlock=c.op.ownBlock) (h3:c'.bd.ownBlock=c.bd.ownBlock)
  (Cf:∃ xs,w.ownsRow base 9 1 c'.op opens'.length xs∧cS (fun b ys=>ys=[aB b]) opens'.reverse xs) (sB:∃ xs,w.ownsRow base 37 1 c'.bd bound'.length xs∧cS (Cg w base (fun k=>¬ q9 x c k)) bound'.reverse xs):hY x base w' c' opens' bound' out:=by
 have hB:∀ k,q9 x c' k↔q9 x c k:=fun k=>by unfold q9;rw [h1,h2,h3]
 have hG:∀ k,¬ q9 x c k→k<w.heap.size→¬ k=x.p∧¬ q9 x c' k:=fun k hk _=>⟨fun he=>hk (Or.inl he),fun hh=>hk ((hB k).1 hh)⟩
 obtain ⟨xs,ho,QI⟩:=h.out
 obtain ⟨ys,Cf,Vg⟩:=Cf
 obtain ⟨zs,hb,hZ⟩:=sB
 refine ⟨hp,h.pb,⟨xs,?_,QI.mono (fun _ _ hh=>hh.mod hm hG)⟩,⟨ys,?_,Vg⟩,⟨zs,?_,hZ.mono (fun _ _ hh=>hh.mod hm hG)⟩,?_,?_,?_⟩
 ·rw [h1];exact aG ho hm (fun g hg he=>h.s1.1 (by rw [←he];exact hg))
 ·exact aG Cf hm (fun g hg he=>h.s1.2.1 (by rw [←he,←h2];exact hg))
 ·exact aG hb hm (fun g hg he=>h.s1.2.2 (by rw [←he,←h3];exact hg))
 ·rw [h1,h2,h3];exact h.s1
 ·rw [h1,h2,h3];exact h.s2
 ·rw [h2,h3];exact h.s3
theorem hY.own {x:PX} {base:Nat} {w w':World} {c c':PC} {opens:List Bs} {bound:List aO} {out:List cH} (h:hY x base w c opens bound out) (hp:aU x w' c') (hm:aK (fun k=>k=x.p) w w') (h1:c'.out=c.out) (h2:c'.op=c.op) (h3:c'.bd=c.bd):hY x base w' c' opens bound out:=
 h.own2 hp hm h1 (by rw [h2]) (by rw [h3]) (by rw [h2];exact h.op) (by rw [h3];exact h.bd)
theorem hY.fresh {x:PX} {base:Nat} {w w':World} {c:PC} {opens:List Bs} {bound:List aO} {out:List cH} (h:hY x base w c opens bound out) (hm:aK (fun _=>False) w w'):hY x base w' c opens bound out:=
 h.own (h.blk.mod hm id) (hm.mono (fun _ _ h=>h.elim)) rfl rfl rfl
theorem hY.addOut {x:PX} {base:Nat} {w w4:World} {c:PC} {opens:List Bs} {bound:List aO} {out:List cH} (h:hY x base w c opens bound out) (p:cH) (sa:Option Addr) (sl sc:Nat) (qG:w.ownsRow base 64 3 (.slice sa sl sc) p.attrs.length (aN p.attrs)) (Am:∀ k,(Value.slice sa sl sc).ownBlock=some k→¬ q9 x c k)
  {v':Value} {xs:List Value} (Es:w.ownsRow base 61 6 c.out out.length xs) (KL:cS (lB w base (fun k=>¬ q9 x c k)) out xs) (h4:w4.ownsRow base 61 6 v' (out.length+1) (xs++eL p (.slice sa sl sc))) (hm:aK (fun k=>c.out.ownBlock=some k) w w4) (hv:v'.ownBlock=c.out.ownBlock∨v'.ownBlock=some w.heap.size) :
  hY x base (w4.setCell ⟨x.p,5,none⟩ v') { c with out:=v' } opens bound (out++[p]):=by
 have Pg:∀ k,v'.ownBlock=some k→c.out.ownBlock=some k∨w.heap.size≤k:=fun k hk=>by
  rcases hv with hv|hv
  ·exact Or.inl (hv▸hk)
  ·rw [hv] at hk;right;simp at hk;omega
 have fL:aK (fun k=>k=x.p∨c.out.ownBlock=some k) w (w4.setCell ⟨x.p,5,none⟩ v'):=aK.setCell (S:=fun k=>k=x.p∨c.out.ownBlock=some k) (hm.mono (fun _ _ h=>Or.inr h)) (p:=⟨x.p,5,none⟩) (Or.inl (Or.inl rfl)) v'
 have a4k:aK (fun k=>k=x.p) w4 (w4.setCell ⟨x.p,5,none⟩ v'):=aK.setCell (S:=fun k=>k=x.p) (aK.refl _ _) (p:=⟨x.p,5,none⟩) (Or.inl rfl) v'
 have FF:=aJ.lt h.blk
 have hG:∀ k,¬ q9 x c k→k<w.heap.size→¬ (k=x.p∨c.out.ownBlock=some k)∧¬ q9 x { c with out:=v' } k:=fun k hk bB=>by
  refine ⟨fun he=>hk (he.elim Or.inl (fun h=>Or.inr (Or.inl h))),fun hh=>?_⟩
  rcases hh with hh|hh|hh|hh
  ·exact hk (Or.inl hh)
  ·rcases Pg k hh with h9|h9
   ·exact hk (Or.inr (Or.inl h9))
   ·omega
  ·exact hk (Or.inr (Or.inr (Or.inl hh)))
  ·exact hk (Or.inr (Or.inr (Or.inr hh)))
 obtain ⟨ys,Cf,Vg⟩:=h.op
 obtain ⟨zs,hb,hZ⟩:=h.bd
 have hnp:v'.ownBlock≠some x.p:=fun he=>by
  rcases Pg _ he with h9|h9
  ·exact h.s1.1 h9
  ·omega
 refine ⟨?_,h.pb,⟨_,?_,.snoc (KL.mono (fun _ _ hh=>hh.mod fL hG)) ⟨sa,sl,sc,rfl,?_,?_⟩⟩,⟨ys,?_,Vg⟩,⟨zs,?_,hZ.mono (fun _ _ hh=>hh.mod fL hG)⟩,⟨hnp,h.s1.2⟩,?_,h.s3⟩
 ·have pC:aU x w4 c:=h.blk.mod hm h.s1.1
  have:=pC.set 5 v'
  simpa [gV] using this
 ·rw [List.length_append]
  exact aG h4 a4k (fun g hg he=>hnp (by rw [←he];exact hg))
 ·exact aG qG fL (fun g hg=>(hG g (Am g hg) (aV qG hg).1).1)
 ·exact fun k hk=>(hG k (Am k hk) (aV qG hk).1).2
 ·refine aG Cf fL (fun g hg he=>?_)
  rcases he with he|he
  ·exact h.s1.2.1 (by rw [←he];exact hg)
  ·exact (h.s2 g he).1 hg
 ·refine aG hb fL (fun g hg he=>?_)
  rcases he with he|he
  ·exact h.s1.2.2 (by rw [←he];exact hg)
  ·exact (h.s2 g he).2 hg
 ·intro k hk
  rcases Pg k hk with h9|h9
  ·exact h.s2 k h9
  ·exact ⟨fun he=>by have:=(aV Cf he).1;omega,fun he=>by have:=(aV hb he).1;omega⟩
abbrev V5 (p:cH) (sa:Option Addr) (sl sc:Nat) (i:Int):Value:=.agg #[.int .i64 p.kind,aB p.space,aB p.loc,.slice sa sl sc,aB p.text,.int .i64 i]
theorem Ch (x:PX) (base:Nat) (w:World) (c:PC) (opens:List Bs) (bound:List aO) (out:List cH) (h:hY x base w c opens bound out) (bF:out.length≤1000000000) (p:cH) (sa:Option Addr) (sl sc:Nat) (i0:Int) (qG:w.ownsRow base 64 3 (.slice sa sl sc) p.attrs.length (aN p.attrs)) (Am:∀ k,(Value.slice sa sl sc).ownBlock=some k→¬ q9 x c k) :
  Calls prog 41 #[oM x,V5 p sa sl sc i0] w fun e w'=>e=.returned (.bool true)∧Below base w w'∧∃ v',hY x base w' { c with out:=v' } opens bound (out++[{ p with at':=c.at' }]):=by
 obtain ⟨xs,Es,KL⟩:=h.out
 obtain ⟨wa,jY⟩:∃ wa,wa=w.alloc (.cells #[.int .i64 p.kind,aB p.space,aB p.loc,.slice sa sl sc,aB p.text,.int .i64 i0] 61):=⟨_,rfl⟩
 have S8:aK (fun _=>False) w wa:=by rw [jY];exact (aK.refl _ w).alloc _
 have k8:aJ wa w.heap.size #[.int .i64 p.kind,aB p.space,aB p.loc,.slice sa sl sc,aB p.text,.int .i64 i0] 61:=by rw [jY];exact aJ.new w _ _
 have J7:=h.blk.mod S8 id
 have hc:=J7.cell
 have hf:=J7.frozen
 have wG:=k8.cell
 have FJ:=k8.frozen
 have H:=Lh h
 have HX1:=Lh Es
 have HX2:=Lh KL
 have SS:=Lh qG
 have HFR:=Lh Am
 have Ci:=Lh S8
 have s7:=Lh k8
 have cL:=Lh bF
 clear h Es KL qG Am S8 k8 J7 bF
 refine eJ 20 func41 [_,_] fun f=>?_
 simp only [aE]
 refine vT 1 ?_
 rw [←jY]
 clear jY
 (refine vg ?_;intro K hK)
 obtain ⟨wb,mZ⟩:∃ wb,wb=wa.setCell ⟨w.heap.size,5,none⟩ (.int .i64 c.at'):=⟨_,rfl⟩
 rw [←mZ]
 have IT:aU x wb c:=by rw [mZ];exact aJ.set_ne (H.out.blk.mod Ci.out id) (fun he=>by have:=aJ.lt H.out.blk;simp at he;omega) _
 have vG:aJ wb w.heap.size #[.int .i64 p.kind,aB p.space,aB p.loc,.slice sa sl sc,aB p.text,.int .i64 c.at'] 61:=by
  have:=s7.out.set 5 (.int .i64 c.at')
  rw [mZ];simpa using this
 have hmb:aK (fun _=>False) w wb:=by rw [mZ];exact aK.setCell (S:=fun _=>False) Ci.out (p:=⟨w.heap.size,5,none⟩) (Or.inr (Nat.le_refl _)) _
 have Q0:=Lh IT
 have pO:=Lh vG
 have HMB:=Lh hmb
 clear mZ IT vG hmb hc hf wG FJ
 refine J6 [0,0,0,0,1,1,3,2,0,0,2] (.one 0 (.one 1 (.one 2 (.one 3 (.one 4 (.one 5 (.one 6 (.one 7 (.one 8 (.one 9 (.one 10 .nil))))))))))) (fun w'=>aU x w' c∧aJ w' w.heap.size #[.int .i64 p.kind,aB p.space,aB p.loc,.slice sa sl sc,aB p.text,.int .i64 c.at'] 61) (by kernel_rfl) (by kernel_rfl) ?_
 (repeat (first|(with_reducible refine NK ?_)|((with_reducible refine GW rfl rfl (fun K hK=>?_));go_simp;refine hK _ ?_;clear hK K)|((with_reducible refine D5 rfl rfl (fun K hK=>?_));go_simp;refine hK.out _ _ ?_;clear hK K)))
 refine D6 rfl rfl ⟨Q0.out,pO.out⟩ rfl (some 14) rfl c.out (fun w' Qw=>?_) ?_
 ·have hc:=Qw.1.cell
  clear Qw
  go_simp
 rw [mC (by decide)]
 refine D6 rfl rfl ⟨Q0.out,pO.out⟩ rfl (some 15) rfl (V5 p sa sl sc c.at') (fun w' Qw=>?_) ?_
 ·have hc:=Qw.2.cell
  clear Qw
  go_simp
 rw [mC (by decide)]
 refine V4 rfl rfl (fun K hK=>?_)
 go_simp
 refine hK.out _ _ ?_ ?_
 ·exact ⟨aJ.alloc (w:=wb.drew) Q0.out _,aJ.alloc (w:=wb.drew) pO.out _⟩
 clear hK K
 obtain ⟨wd,hwd⟩:∃ wd,wd=(wb.alloc (.cells #[.int .i64 p.kind,aB p.space,aB p.loc,.slice sa sl sc,aB p.text,.int .i64 c.at'] 61)).drew:=⟨_,rfl⟩
 rw [←hwd]
 have Ar:aK (fun _=>False) w wd:=by rw [hwd];exact (HMB.out.alloc _).drew
 have sB:aJ wd wb.heap.size #[.int .i64 p.kind,aB p.space,aB p.loc,.slice sa sl sc,aB p.text,.int .i64 c.at'] 61:=by rw [hwd];exact (aJ.new wb _ _).drew
 have FF:=H.out.size
 obtain ⟨v',w4,gA,eC,l5,hv,gv,cv,Fj⟩:=yJ yH underlying23 rfl (by decide) (by decide) wd base (Nat.le_trans FF Ar.size) c.out out.length cL.out xs (aG (S:=fun _=>False) HX1.out Ar (fun _ _=>id)) wb.heap.size (eL { p with at':=c.at' } (.slice sa sl sc)) rfl
  (fun j u hj=>by rw [sB.cell];simpa [eL] using hj)
  (fun u hu=>by
   simp only [eL,List.mem_cons,List.not_mem_nil,or_false] at hu
   rcases hu with rfl|rfl|rfl|rfl|rfl|rfl<;>rfl)
 have xC:=Lh eC
 have o6:=Lh l5
 have HV:=Lh hv
 have Yp:=Lh Ar
 clear hwd sB eC l5 hv Ar FF
 refine Ce rfl rfl rfl (some 17) rfl (.tmp 14) (.tmp 16) _ _ rfl _ _ v' (by rw [dZ (by decide)];(try simp only [aL,aQ,aS,bD,Nat.reduceEqDiff,↓reduceIte]);(try rfl)) (by rw [dZ (by decide)];(try simp only [aL,aQ,aS,bD,Nat.reduceEqDiff,↓reduceIte]);(try rfl)) gA ?_
 rw [mC (by decide)]
 clear gA
 subst Fj
 have tJ:aU x w4 c:=(H.out.blk.mod Yp.out id).mod o6.out H.out.s1.1
 have hc:=tJ.cell
 have hf:=tJ.frozen
 clear tJ
 (repeat (first|(with_reducible refine NK ?_)|((with_reducible refine GW rfl rfl (fun K hK=>?_));go_simp;refine hK _ ?_;clear hK K)|((with_reducible refine D5 rfl rfl (fun K hK=>?_));go_simp;refine hK.out _ _ ?_;clear hK K)))
 (revert K;refine vg ?_)
 (refine cW ?_)
 have hd:=H.out.fresh Yp.out
 have KL:=HX2.out.mono (fun _ _ hh=>lB.mod (G':=fun k=>¬ q9 x c k) hh Yp.out (fun k hk _=>⟨id,hk⟩))
 have hR:=hd.addOut { p with at':=c.at' } sa sl sc (aG (S:=fun _=>False) SS.out Yp.out (fun _ _=>id)) HFR.out (aG (S:=fun _=>False) HX1.out Yp.out (fun _ _=>id)) KL xC.out o6.out HV.out
 refine ⟨rfl,?_,_,hR⟩
 refine aK.below (Below.refl _ w) H.out.size (aK.setCell (S:=fun k=>q9 x c k) ((Yp.out.mono (S':=fun k=>q9 x c k) (fun _ _ h=>h.elim)).trans (o6.out.mono (S':=fun k=>q9 x c k) (fun _ _ h=>Or.inr (Or.inl h))) (fun _ _ h=>h)) (p:=⟨x.p,5,none⟩) (Or.inl (Or.inl rfl)) _) (fun i hi=>(H.out.busy hi).1)
def SV.num:SV→Int
 | .bad=>1
 | .opn=>2
def eT {α:Type} (x:PX) (w:World) (c:PC) (okv:α→Ending) (bad:Ending) (r:Except SV (α×Bs)) (e:Ending) (w':World):Prop:=
 aK (fun k=>k=x.p) w w'∧match r with
  | .ok p=>∃ a,p.2=x.T.drop a∧a≤x.T.length∧c.at'≤a∧aU x w' { c with at':=a }∧e=okv p.1
  | .error k=>(∃ a,aU x w' { c with at':=a,verd:=k.num })∧e=bad
theorem eT.okk {α:Type} {x:PX} {w:World} {c:PC} {okv:α→Ending} {bad:Ending} {r:Except SV (α×Bs)} {w':World} {v:α} {a:Nat} (h:r=.ok (v,x.T.drop a)) (ha:a≤x.T.length) (hb:c.at'≤a) (hp:aU x w' { c with at':=a }) (hm:aK (fun k=>k=x.p) w w'):eT x w c okv bad r (okv v) w':=by
 subst h;exact ⟨hm,a,rfl,ha,hb,hp,rfl⟩
theorem eT.bad {α:Type} {x:PX} {w:World} {c:PC} {okv:α→Ending} {bad:Ending} {r:Except SV (α×Bs)} {w':World} {k:SV} {a:Nat} (h:r=.error k) (hp:aU x w' { c with at':=a,verd:=k.num }) (hm:aK (fun k=>k=x.p) w w'):eT x w c okv bad r bad w':=by
 subst h;exact ⟨hm,⟨a,hp⟩,rfl⟩
theorem uS (l:Bs):(aD l).1.length+(aD l).2.length=l.length:=by
 have:=congrArg List.length (uA l).1
 rw [List.length_append] at this;exact this
theorem mO (x:PX) (w0 w:World) (c:PC) (h:aU x w c) (hm:aK (fun k=>k=x.p) w0 w) (v:Int):Calls prog 25 #[oM x,.int .i64 v] w fun e w'=>e=.returned (.bool false)∧aU x w' { c with verd:=v }∧aK (fun k=>k=x.p) w0 w':=by
 refine (mV x w c h v).mono ?_
 rintro e w' ⟨rfl,h1,h2⟩
 exact ⟨rfl,h1,hm.trans h2 (fun _ _ h=>h)⟩
theorem eF {S:Nat→Prop} {w0 w w':World} (h:aK S w0 w) (h1:w'.os=w.os) (h2:w'.tape=w.tape) (h3:w'.output=w.output) (h4:w'.heap=w.heap):aK S w0 w':=
 ⟨h1.trans h.os,h2.trans h.tape,h3.trans h.output,by rw [h4];exact h.size,fun k hk hn=>by rw [h4];exact h.block k hk hn⟩
theorem J8 (x:PX) (hT:x.T.length≤1000000000) (w:World) (c:PC) (h:aU x w c) (ha:c.at'≤x.T.length):Calls prog 42 #[oM x] w (eT x w c (fun nm=>.returned (.tuple #[aB nm.1,aB nm.2,.bool true])) (.returned (.tuple #[aB [],aB [],.bool false])) (iB (x.T.drop c.at'))):=by
 have HW:=Lh (JE x hT w c h ha)
 have OV:=Lh (uS (x.T.drop c.at'))
 have HT:=Lh hT
 clear h ha hT
 refine eJ 45 func42 [_] fun f=>?_
 simp only [aE]
 obtain ⟨s,hs⟩:∃ s,s=(aD (x.T.drop c.at')).1:=⟨_,rfl⟩
 obtain ⟨rr,tH⟩:∃ rr,rr=(aD (x.T.drop c.at')).2:=⟨_,rfl⟩
 have HN:=Lh (show iB (x.T.drop c.at')=if bE s=1 then .error .bad else if bE s=2 then .error .opn else match kE s with
   | none=>.error .opn
   | some (p,l)=>if eV l=false∨(p≠[]∧eV p=false) then .error .opn else .ok ((p,l),rr) by rw [hs,tH];rfl)
 rw [←hs,←tH] at HW OV
 clear hs tH
 have xH:s.length≤1000000000:=by have h1:=OV.out;have h2:=HT.out;rw [List.length_drop] at h1;omega
 have vH:=Lh xH
 have P7:=Lh (fun w=>sF s xH w)
 have oK:=Lh (fun w=>Ih s xH w)
 have a2J:=Lh (fun (l:Bs) (hl:l.length≤s.length) w=>zV l (Nat.le_trans hl xH) w)
 clear xH
 (refine vg ?_;(repeat with_reducible intro K hK))
 refine HW.out.mono ?_
 rintro e1 w1 ⟨a,rfl,hp,hm,iK,vV,kV⟩
 have HP:=Lh hp
 have HM:=Lh hm
 have kA:=Lh iK
 have sN:=Lh vV
 have OO:=Lh kV
 have HF:=Lh (fun (w':World) (h1:aU x w' { c with at':=a }) (h2:aK (fun k=>k=x.p) w w') (v:Int)=>mO x w w' { c with at':=a } h1 h2 v)
 clear hp hm iK vV kV HW
 ((repeat revert K);refine vS ?_;(repeat with_reducible intro K hK))
 refine (P7.out _).mono ?_
 rintro e2 w2 ⟨rfl,rfl⟩
 go_simp
 by_cases xO:bE s=1
 ·have HR:=Lh (HN.out.trans (if_pos xO))
  rw [xO]
  clear xO
  ((repeat revert K);refine vg ?_;(repeat with_reducible intro K hK))
  refine (HF.out _ (by exact HP.out) (by exact eF HM.out rfl rfl rfl rfl) _).mono ?_
  rintro e3 w3 ⟨rfl,eK,cD⟩
  have eP:=Lh eK
  have fM:=Lh cD
  clear eK cD
  ((repeat revert K);refine vS ?_;intro K hK)
  (refine WV ?_)
  exact eT.bad HR.out eP.out fM.out
 have e1:((bE s:Int)==1)=false:=by simp;omega
 by_cases OR:bE s=2
 ·have HR:=Lh ((HN.out.trans (if_neg xO)).trans (if_pos OR))
  rw [OR]
  clear xO OR e1
  ((repeat revert K);refine vg ?_;(repeat with_reducible intro K hK))
  refine (HF.out _ (by exact HP.out) (by exact eF HM.out rfl rfl rfl rfl) _).mono ?_
  rintro e3 w3 ⟨rfl,eK,cD⟩
  have eP:=Lh eK
  have fM:=Lh cD
  clear eK cD
  ((repeat revert K);refine vS ?_;intro K hK)
  (refine WV ?_)
  exact eT.bad HR.out eP.out fM.out
 have e2:((bE s:Int)==2)=false:=by simp;omega
 have mH:=Lh ((HN.out.trans (if_neg xO)).trans (if_neg OR))
 clear xO OR HN
 ((repeat revert K);refine vg ?_;(repeat with_reducible intro K hK))
 refine (oK.out _).mono ?_
 rintro e3 w3 ⟨⟨p,q,ok,rfl,fY,FF,hql⟩,k3,rfl⟩
 have a2K:=Lh fY
 have Xs:=Lh FF
 have HQL:=Lh hql
 clear fY FF hql
 go_simp
 cases ok with
 | false=>
  have HR:=Lh (show iB (x.T.drop c.at')=.error .opn by rw [mH.out,←a2K.out];rfl)
  ((repeat revert K);refine vg ?_;(repeat with_reducible intro K hK))
  refine (HF.out _ (by exact HP.out) (by exact eF HM.out rfl rfl rfl rfl) _).mono ?_
  rintro e3 w3 ⟨rfl,eK,cD⟩
  have eP:=Lh eK
  have fM:=Lh cD
  clear eK cD
  ((repeat revert K);refine vS ?_;intro K hK)
  (refine WV ?_)
  exact eT.bad HR.out eP.out fM.out
 | true=>
  have Yb:=Lh (show iB (x.T.drop c.at')=if eV q=false∨(p≠[]∧eV p=false) then .error .opn else .ok ((p,q),rr) by rw [mH.out,←a2K.out];rfl)
  ((repeat revert K);refine vg ?_;(repeat with_reducible intro K hK))
  refine (a2J.out q HQL.out _).mono ?_
  rintro e4 w4 ⟨rfl,rfl⟩
  go_simp
  cases hq:eV q with
  | false=>
   have HR:=Lh (Yb.out.trans (if_pos (Or.inl hq)))
   ((repeat revert K);refine vg ?_;(repeat with_reducible intro K hK))
   refine (HF.out _ (by exact HP.out) (by exact eF HM.out rfl rfl rfl rfl) _).mono ?_
   rintro e3 w3 ⟨rfl,eK,cD⟩
   have eP:=Lh eK
   have fM:=Lh cD
   clear eK cD
   ((repeat revert K);refine vS ?_;intro K hK)
   (refine WV ?_)
   exact eT.bad HR.out eP.out fM.out
  | true=>
   by_cases XA:p=[]
   ·have HR:=Lh (Yb.out.trans (if_neg (fun hh=>hh.elim (fun h=>Bool.noConfusion (hq.symm.trans h)) (fun h=>h.1 XA))))
    subst XA
    ((repeat revert K);refine vg ?_)
    (refine WV ?_)
    exact eT.okk (v:=([],q)) (by rw [HR.out,OO.out]) kA.out sN.out HP.out (eF HM.out rfl rfl rfl rfl)
   ·have Sf:p.isEmpty=false:=by cases p with
     | nil=>exact absurd rfl XA
     | cons=>rfl
    have A7:=Lh XA
    clear XA
    ((repeat revert K);refine vg ?_;(repeat with_reducible intro K hK))
    refine (a2J.out p Xs.out _).mono ?_
    rintro e4 w4 ⟨rfl,rfl⟩
    go_simp
    cases GX:eV p with
    | false=>
     have HR:=Lh (Yb.out.trans (if_pos (Or.inr ⟨A7.out,GX⟩)))
     ((repeat revert K);refine vg ?_;(repeat with_reducible intro K hK))
     refine (HF.out _ (by exact HP.out) (by exact eF HM.out rfl rfl rfl rfl) _).mono ?_
     rintro e3 w3 ⟨rfl,eK,cD⟩
     have eP:=Lh eK
     have fM:=Lh cD
     clear eK cD
     ((repeat revert K);refine vS ?_;intro K hK)
     (refine WV ?_)
     exact eT.bad HR.out eP.out fM.out
    | true=>
     have HR:=Lh (Yb.out.trans (if_neg (fun hh=>hh.elim (fun h=>Bool.noConfusion (hq.symm.trans h)) (fun h=>Bool.noConfusion (GX.symm.trans h.2)))))
     ((repeat revert K);refine vg ?_)
     (refine WV ?_)
     exact eT.okk (v:=(p,q)) (by rw [HR.out,OO.out]) kA.out sN.out HP.out (eF HM.out rfl rfl rfl rfl)
theorem jE (x:PX) (hT:x.T.length≤1000000000) (w:World) (c:PC) (h:aU x w c) (ha:c.at'≤x.T.length) (s:Bs) (hs:s.length≤1000000000) (hp:s.isPrefixOf (x.T.drop c.at')=true):Calls prog 19 #[oM x,aB s] w fun e w'=>e=.returned (.bool true)∧aU x w' { c with at':=c.at'+s.length }∧aK (fun k=>k=x.p) w w':=by
 refine (zI x hT w c h ha s hs).mono ?_
 rintro e w' ⟨rfl,h1,h2⟩
 rw [hp,if_pos rfl] at h1
 rw [hp]
 exact ⟨rfl,h1,h2⟩
theorem iP (x:PX) (hT:x.T.length≤1000000000) (w:World) (c:PC) (h:aU x w c) (ha:c.at'≤x.T.length) (s:Bs) (hs:s.length≤1000000000) (hp:s.isPrefixOf (x.T.drop c.at')=false):Calls prog 19 #[oM x,aB s] w fun e w'=>e=.returned (.bool false)∧aU x w' c∧aK (fun k=>k=x.p) w w':=by
 refine (zI x hT w c h ha s hs).mono ?_
 rintro e w' ⟨rfl,h1,h2⟩
 rw [hp,if_neg (by simp)] at h1
 rw [hp]
 exact ⟨rfl,h1,h2⟩
theorem qC (x:PX) (w:World) (c:PC) (h:aU x w c) (ha:x.T.length≤c.at'):Calls prog 9 #[oM x] w fun e w'=>e=.returned (.bool true)∧∃ k,w'=w.drewN k:=by
 refine (x4 x w c h).mono ?_
 rintro e w' ⟨rfl,h2⟩
 exact ⟨by rw [decide_eq_true (by omega)],h2⟩
theorem qD (x:PX) (w:World) (c:PC) (h:aU x w c) (ha:c.at'<x.T.length):Calls prog 9 #[oM x] w fun e w'=>e=.returned (.bool false)∧∃ k,w'=w.drewN k:=by
 refine (x4 x w c h).mono ?_
 rintro e w' ⟨rfl,h2⟩
 exact ⟨by rw [decide_eq_false (by omega)],h2⟩
theorem qE {s T:Bs} {a:Nat} (h:s.isPrefixOf (T.drop a)=true) (ha:a≤T.length):a+s.length≤T.length:=by
 have:=JC h
 rw [List.length_drop] at this
 omega
def gW (x:PX) (base:Nat) (out:List cH) (w:World) (r:Except SV (List aP×iV)) (e:Ending) (w':World):Prop:=
 Below base w w'∧match r with
  | .ok q=>e=.returned (.bool true)∧∃ c',hY x base w' c' q.2.opens q.2.bound (out++q.1.map fun t=>{ t.itok [] with at':=c'.at' })∧c'.at'≤x.T.length∧q.2.rest=x.T.drop c'.at'
  | .error k=>e=.returned (.bool false)∧∃ c' op bd,hY x base w' c' op bd out∧c'.verd=k.num
theorem gW.err {x:PX} {base:Nat} {out:List cH} {w w1 w':World} {c:PC} {opens:List Bs} {bound:List aO} {r:Except SV (List aP×iV)} {k:SV} {a:Nat} (h:hY x base w c opens bound out) (hp:aU x w' { c with at':=a,verd:=k.num }) (hm:aK (fun k=>k=x.p) w w') (hr:r=.error k):gW x base out w r (.returned (.bool false)) w':=by
 subst hr
 exact ⟨aK.below (Below.refl _ w) h.size hm (fun i hi=>by rw [hi];exact h.pb),rfl,_,opens,bound,h.own hp hm rfl rfl rfl,rfl⟩
theorem vK (x:PX) (base:Nat) (w w1:World) (c:PC) (opens:List Bs) (bound:List aO) (out:List cH) (h:hY x base w c opens bound out) (bF:out.length≤1000000000) (a:Nat) (ha:a≤x.T.length) (hp:aU x w1 { c with at':=a }) (hm:aK (fun k=>k=x.p) w w1) (t:aP) (qG:(t.itok []).attrs=[]) (r:Except SV (List aP×iV)) (hr:r=.ok ([t],⟨x.T.drop a,opens,bound⟩)) :
  Calls prog 41 #[oM x,V5 (t.itok []) none 0 0 0] w1 fun e w'=>e=.returned (.bool true)∧gW x base out w r (.returned (.bool true)) w':=by
 have h1:hY x base w1 { c with at':=a } opens bound out:=h.own hp hm rfl rfl rfl
 refine (Ch x base w1 { c with at':=a } opens bound out h1 bF (t.itok []) none 0 0 0 ⟨by rw [qG];rfl,Or.inl ⟨rfl,by rw [qG];rfl⟩⟩ (fun k hk=>by cases hk)).mono ?_
 rintro e w' ⟨rfl,hb,v',hs⟩
 refine ⟨rfl,(aK.below (Below.refl _ w) h.size hm (fun i hi=>by rw [hi];exact h.pb)).trans hb,?_⟩
 subst hr
 exact ⟨rfl,_,hs,ha,rfl⟩
def Cj (l:Bs):Int:=match l with
 | []=>1
 | b::_=>if b=45∨b=91 then 1 else 2
theorem Ck (x:PX) (w:World) (c:PC) (h:aU x w c):Calls prog 26 #[oM x,aB [45,45],aB [91,67,68,65,84,65,91]] w fun e w'=>e=.returned (.int .i64 (Cj (x.T.drop c.at')))∧∃ k,w'=w.drewN k:=by
 have HP:=Lh h
 refine eJ 37 func26 [_,_,_] fun f=>?_
 simp only [aE]
 have l0:∀ h,(⟨#[45,45]⟩:ByteArray)[0]'h=45:=fun _=>rfl
 have l1:∀ h,(⟨#[91,67,68,65,84,65,91]⟩:ByteArray)[0]'h=91:=fun _=>rfl
 by_cases bB:c.at'<x.T.length
 ·have HE:=Lh (fun kk=>qD x (w.drewN kk) c h bB)
  clear h
  obtain ⟨b,hb⟩:∃ b,b=x.T.getD c.at' 0:=⟨_,rfl⟩
  have ix:∀ h,(⟨x.T.toArray⟩:ByteArray)[c.at']'h=b:=by rw [hb];exact jG x.T c.at' bB
  have HR:=Lh (show Cj (x.T.drop c.at')=if b=45∨b=91 then 1 else 2 by rw [bT x.T c.at' bB,hb];rfl)
  have t0:(0:Int)≤(c.at':Int):=by omega
  have t1:(c.at':Int)<(x.T.length:Int):=by omega
  clear hb
  by_cases wP:b=45
  ·have fB:=Lh (HR.out.trans (if_pos (Or.inl wP)))
   subst wP
   (refine vg ?_;(repeat with_reducible intro K hK))
   (refine aI [0,2,0,0,0,0,1,0,0,0,1,0,0,0,0,0,0,0,0,0,1,0,0,0,1,0,0,0,0,0] [0,1,2,3,4,5,6,7,8,9,10,11,12,13,14,15,16,17,18,19,20,21,22,23,24,25,26,27,28,29] (by kernel_rfl) (by kernel_rfl) ?_;refine vP ?_;repeat with_reducible intro nq)
   (refine bK rfl rfl (fun nq K hK=>?_);go_simp)
   refine (HE.out _).mono ?_
   rintro e3 w3 ⟨rfl,k3,rfl⟩
   have hc:=HP.out.cell
   have hf:=HP.out.frozen
   (go_simp;refine hK.out _ _ ?_;clear hK K)
   (refine vP ?_;repeat with_reducible intro nq)
   ((repeat revert K);refine vg ?_;intro K hK)
   (refine cW ?_)
   exact ⟨by rw [fB.out],_,rfl⟩
  have e45:((b.toNat:Int)==45)=false:=pP wP
  by_cases VI:b=91
  ·have fB:=Lh (HR.out.trans (if_pos (Or.inr VI)))
   subst VI
   (refine vg ?_;(repeat with_reducible intro K hK))
   (refine aI [0,2,0,0,0,0,1,0,0,0,1,0,0,0,0,0,0,0,0,0,1,0,0,0,1,0,0,0,0,0] [0,1,2,3,4,5,6,7,8,9,10,11,12,13,14,15,16,17,18,19,20,21,22,23,24,25,26,27,28,29] (by kernel_rfl) (by kernel_rfl) ?_;refine vP ?_;repeat with_reducible intro nq)
   (refine bK rfl rfl (fun nq K hK=>?_);go_simp)
   refine (HE.out _).mono ?_
   rintro e3 w3 ⟨rfl,k3,rfl⟩
   have hc:=HP.out.cell
   have hf:=HP.out.frozen
   (go_simp;refine hK.out _ _ ?_;clear hK K)
   (refine vP ?_;repeat with_reducible intro nq)
   ((repeat revert K);refine vg ?_;intro K hK)
   (refine cW ?_)
   exact ⟨by rw [fB.out],_,rfl⟩
  have e91:((b.toNat:Int)==91)=false:=pP VI
  have fB:=Lh (HR.out.trans (if_neg (fun hh=>hh.elim wP VI)))
  clear wP VI
  (refine vg ?_;(repeat with_reducible intro K hK))
  (refine aI [0,2,0,0,0,0,1,0,0,0,1,0,0,0,0,0,0,0,0,0,1,0,0,0,1,0,0,0,0,0] [0,1,2,3,4,5,6,7,8,9,10,11,12,13,14,15,16,17,18,19,20,21,22,23,24,25,26,27,28,29] (by kernel_rfl) (by kernel_rfl) ?_;refine vP ?_;repeat with_reducible intro nq)
  (refine bK rfl rfl (fun nq K hK=>?_);go_simp)
  refine (HE.out _).mono ?_
  rintro e3 w3 ⟨rfl,k3,rfl⟩
  have hc:=HP.out.cell
  have hf:=HP.out.frozen
  (go_simp;refine hK.out _ _ ?_;clear hK K)
  (refine vP ?_;repeat with_reducible intro nq)
  ((repeat revert K);refine vg ?_)
  (refine cW ?_)
  exact ⟨by rw [fB.out],_,rfl⟩
 ·have HE:=Lh (fun kk=>qC x (w.drewN kk) c h (by omega))
  have HR:=Lh (show Cj (x.T.drop c.at')=1 by rw [List.drop_eq_nil_of_le (by omega)];rfl)
  clear h
  (refine vg ?_;(repeat with_reducible intro K hK))
  (refine aI [0,2,0,0,0,0,1,0,0,0,1,0,0,0,0,0,0,0,0,0,1,0,0,0,1,0,0,0,0,0] [0,1,2,3,4,5,6,7,8,9,10,11,12,13,14,15,16,17,18,19,20,21,22,23,24,25,26,27,28,29] (by kernel_rfl) (by kernel_rfl) ?_;refine vP ?_;repeat with_reducible intro nq)
  (refine bK rfl rfl (fun nq K hK=>?_);go_simp)
  refine (HE.out _).mono ?_
  rintro e3 w3 ⟨rfl,k3,rfl⟩
  (go_simp;refine hK.out _ _ ?_;clear hK K)
  (refine vP ?_;repeat with_reducible intro nq)
  ((repeat revert K);refine vg ?_;intro K hK)
  (refine cW ?_)
  exact ⟨by rw [HR.out],_,rfl⟩
end Go.Proofs.YtdjdjbpnbjdaaaaGreatDoor
