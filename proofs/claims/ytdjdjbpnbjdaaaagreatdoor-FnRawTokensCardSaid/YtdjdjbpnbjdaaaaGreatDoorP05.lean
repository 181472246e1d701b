/- Part of the proof that laws.FnRawTokens returns true for every argument. No conditions. -/
import Derived.Deep.Quiet
import Derived.Deep.QuietTactic
import Derived.Deep.RegionHeld3
import Derived.NoCompiler
import Derived.Test.YtdjdjbpnbjdaaaaGreatDoorP04
import Derived.Lib.BufferWrite
set_option linter.all false
set_option maxHeartbeats 8000000
set_option maxRecDepth 100000
namespace Go.Proofs.YtdjdjbpnbjdaaaaGreatDoor
open Go Tryz
section
variable {P:Program} {ops:Array Oper} {md:Region.Mode} {L:List Nat}
theorem pJ {listed:Array Bool} {i:Nat} (h:listed.getD i true=false):listed.getD i false=false:=by
 rcases Nat.lt_or_ge i listed.size with h'|h'
 ·simp [h'] at h ⊢;exact h
 ·simp [Array.getElem?_eq_none h'] at h
def mY (w:World) (v:Value):Result Next→Prop
 | .ok (.value u) w'=>w'=w∧u=v
 | _=>False
def wU (P:Program) (o:Oper) (a:Act) (w:World) (v:Value):Prop:=mY w v ((execOp a.eval o).run P w)
def O9 (P:Program) (o:Oper) (a:Act) (next:Act→Prop):Prop:=∃ v,(∀ w,wU P o a w v)∧next (a.put o.dst v)
attribute [go_sem] mY wU O9
def RX (P:Program) (ops:Array Oper) (L:List Nat) (Q:Exit→Act→World→Prop) (i:Nat) (K:Act→(World→Prop)→Prop) (a:Act) (C:World→Prop):Prop:=
 match ops[i]? with
 | none=>False
 | some o=>match L.getD i 2 with
  | 0=>∃ v,Yields P ops o v a∧K (a.put o.dst v) C
  | 1=>∃ v,YieldsIn P ops C o v a∧K (a.put o.dst v) C
  | _=>∀ w,C w→wpOp P ops Q i (fun a' w'=>∃ C',C' w'∧K a' C') a w
theorem X8 {Q:Exit→Act→World→Prop} {i:Nat} {K K':Act→(World→Prop)→Prop} {a:Act} {C:World→Prop} (h:∀ a C,K a C→K' a C) (hh:RX P ops L Q i K a C):RX P ops L Q i K' a C:=by
 unfold RX at *
 split
 ·simp_all
 ·rename_i o ho
  simp only [ho] at hh
  split
  ·rename_i h0;simp only [h0] at hh;obtain ⟨v,h1,h2⟩:=hh;exact ⟨v,h1,h _ _ h2⟩
  ·rename_i h0;simp only [h0] at hh;obtain ⟨v,h1,h2⟩:=hh;exact ⟨v,h1,h _ _ h2⟩
  ·rename_i h0 h1
   split at hh
   ·exact absurd (by assumption) h0
   ·exact absurd (by assumption) h1
   ·exact fun w hw=>wpOp_mono (fun a' w' ⟨C',h1,h2⟩=>⟨C',h1,h _ _ h2⟩) (hh w hw)
def rX (P:Program) (md:Region.Mode) (ops:Array Oper) (L:List Nat) (Q:Exit→Act→World→Prop):Nat→Array Bool→Act→(World→Prop)→Prop
 | 0,listed,a,C=>Region.ready md ops listed=[]∧∀ w,C w→Q .normal a w
 | fuel+1,listed,a,C=>
  (Region.ready md ops listed=[]→∀ w,C w→Q .normal a w) ∧
  ∀ i∈Region.ready md ops listed,RX P ops L Q i (rX P md ops L Q fuel (listed.setIfInBounds i true)) a C
theorem rY {Q:Exit→Act→World→Prop}:∀ (fuel:Nat) (listed:Array Bool) (a:Act) (C:World→Prop) (w:World),C w→rX P md ops L Q fuel listed a C→wpAny P md ops Q fuel listed a w
 | 0,_,_,_,w,hw,h=>⟨h.1,h.2 w hw⟩
 | fuel+1,_,_,C,w,hw,h=>⟨fun h0=>h.1 h0 w hw,fun i hi=>by
  have h1:=h.2 i hi
  unfold RX at h1
  split at h1
  ·exact h1.elim
  ·rename_i o ho
   split at h1
   ·obtain ⟨v,hy,hK⟩:=h1
    exact hy.wpOp ho (rY fuel _ _ C w hw hK)
   ·obtain ⟨v,hy,hK⟩:=h1
    exact wpOp_of_qOp (C:=C) (K:=fun a'=>rX P md ops L Q fuel _ a' C) hw (fun a' w' Qw h'=>rY fuel _ _ C w' Qw h') (hy.qOp ho hK)
   ·exact wpOp_mono (fun a' w' ⟨C',h1,h2⟩=>rY fuel _ _ C' w' h1 h2) (h1 w hw)⟩
structure pK (md:Region.Mode) (ops:Array Oper) (L:List Nat) (i:Nat) (wt:Nat→Bool) (listed:Array Bool):Prop where
 out:∀ j,wt j=true→listed.getD j false=false
 cov:∀ j,j≠i→listed.getD j true=false→2≤L.getD j 2→wt j=true
def oD (md:Region.Mode) (ops:Array Oper) (i:Nat) (wt:Nat→Bool):Prop:=∀ j,wt j=true→∃ oj,ops[j]?=some oj∧∃ e∈oj.after,Region.binds md e=true∧(e.on=i∨wt e.on=true)
theorem pK.not_ready {i j:Nat} {wt:Nat→Bool} {listed:Array Bool} (hs:oD md ops i wt) (h:pK md ops L i wt listed) (hi:listed.getD i true=false) (hj:j∈Region.ready md ops listed):wt j=false:=by
 cases hw:wt j with
 | false=>rfl
 | true=>
  obtain ⟨oj,I0,e,he,hb,ho⟩:=hs j hw
  obtain ⟨_,o,ho',BQ⟩:=mem_ready.1 hj
  have:o=oj:=Option.some.inj (ho'.symm.trans I0)
  subst this
  have h1:=BQ e he hb
  rcases ho with ho|ho
  ·rw [ho,pJ hi] at h1;cases h1
  ·rw [h.out _ ho] at h1;cases h1
theorem pK.set {i j:Nat} {wt:Nat→Bool} {listed:Array Bool} (h:pK md ops L i wt listed) (hj:wt j=false):pK md ops L i wt (listed.setIfInBounds j true):=by
 refine ⟨fun k hk=>?_,fun k hk hu hl=>?_⟩
 ·have:j≠k:=fun e=>by subst e;rw [hj] at hk;cases hk
  rw [getD_set_ne false this];exact h.out k hk
 ·by_cases X9:j=k
  ·subst X9
   rcases Nat.lt_or_ge j listed.size with h'|h'
   ·simp [h'] at hu
   ·simp at hu
  ·rw [getD_set_ne true X9] at hu
   exact h.cov k hk hu hl
theorem xZ {Q:Exit→Act→World→Prop} {i:Nat} {oi:Oper} {v:Value} (hi:ops[i]?=some oi) (YA:∀ (j:Nat) (o:Oper) cs b,ops[j]?=some o→o.op≠.select cs b)
  (hQ:∀ c a w,Q (.panic c) (a.put oi.dst v) w→Q (.panic c) a w) (wt:Nat→Bool) (mX:L.getD i 2=1→oD md ops i wt) (hc:L.getD i 2=0∨L.getD i 2=1) :
  ∀ (fuel:Nat) (listed:Array Bool) (a:Act) (C:World→Prop),
   (∀ j oj,ops[j]?=some oj→j≠i→listed.getD j true=false→(∀ e∈oj.after,Region.binds md e=true→e.on≠i)→oi.apart ops oj=true) →
   (L.getD i 2=1→pK md ops L i wt listed) →
   i∈Region.ready md ops listed→(L.getD i 2=0→Yields P ops oi v a)→(L.getD i 2=1→YieldsIn P ops C oi v a) →
   rX P md ops L Q fuel (listed.setIfInBounds i true) (a.put oi.dst v) C→rX P md ops L Q (fuel+1) listed a C:=by
 intro fuel
 have self:∀ (fuel:Nat) (listed:Array Bool) (a:Act) (C:World→Prop),(L.getD i 2=0→Yields P ops oi v a)→(L.getD i 2=1→YieldsIn P ops C oi v a) →
   rX P md ops L Q fuel (listed.setIfInBounds i true) (a.put oi.dst v) C→RX P ops L Q i (rX P md ops L Q fuel (listed.setIfInBounds i true)) a C:=by
  intro fuel listed a C h0 h1 H
  unfold RX
  simp only [hi]
  rcases hc with hc|hc
  ·simp only [hc];exact ⟨v,h0 hc,H⟩
  ·simp only [hc];exact ⟨v,h1 hc,H⟩
 induction fuel with
 | zero=>
  intro listed a C _ _ hr h0 h1 H
  refine ⟨fun h=>(by rw [h] at hr;cases hr),fun j hj=>?_⟩
  by_cases tF:j=i
  ·subst tF;exact self _ _ _ _ h0 h1 H
  ·have:=ready_mono hj tF
   rw [H.1] at this
   cases this
 | succ fuel ih=>
  intro listed a C qO Gr hr h0 h1 H
  refine ⟨fun h=>(by rw [h] at hr;cases hr),fun j hj=>?_⟩
  by_cases tF:j=i
  ·subst tF;exact self _ _ _ _ h0 h1 H
  ·have hh:=H.2 j (ready_mono hj tF)
   obtain ⟨PA,oj,I0,BQ⟩:=mem_ready.1 hj
   have PB:=(mem_ready.1 hr).1
   have Qx:∀ e∈oj.after,Region.binds md e=true→e.on≠i:=fun e he hb CZ=>by
    have h1:=BQ e he hb
    rw [CZ,pJ PB] at h1
    cases h1
   have Qy:=qO j oj I0 tF PA Qx
   have rZ:∀ k ok,ops[k]?=some ok→k≠i→(listed.setIfInBounds j true).getD k true=false →
     (∀ e∈ok.after,Region.binds md e=true→e.on≠i)→oi.apart ops ok=true:=fun k ok hk Xq iW jL=>by
    refine qO k ok hk Xq ?_ jL
    by_cases X9:j=k
    ·subst X9;exact PA
    ·rw [getD_set_ne true X9] at iW;exact iW
   have I1:L.getD i 2=1→pK md ops L i wt (listed.setIfInBounds j true):=fun h=>(Gr h).set ((Gr h).not_ready (mX h) PB hj)
   have C0:=ready_mono hr (Ne.symm tF)
   obtain ⟨p1,p2,p3⟩:=Oper.apart_spec Qy
   have Gs:=fun cs b=>YA i oi cs b hi
   have Gt:=fun cs b=>YA j oj cs b I0
   have keep0:∀ (a:Act),(L.getD i 2=0→Yields P ops oi v a)→∀ u,(L.getD i 2=0→Yields P ops oi v (a.put oj.dst u)):=fun a hy u h=>
    (hy h).of_same (execOp_put oi Gs a oj.dst u p3) (wanted_put oi a oj.dst u p3)
   have keep1:∀ (a:Act),(L.getD i 2=1→YieldsIn P ops C oi v a)→∀ u,(L.getD i 2=1→YieldsIn P ops C oi v (a.put oj.dst u)):=fun a hy u h=>
    (hy h).of_same (execOp_put oi Gs a oj.dst u p3) (wanted_put oi a oj.dst u p3)
   unfold RX at hh ⊢
   simp only [I0] at hh ⊢
   split
   ·rename_i Ex
    simp only [Ex] at hh
    obtain ⟨u,hy,hK⟩:=hh
    refine ⟨u,hy.of_same (execOp_put oj Gt a oi.dst v p1).symm (wanted_put oj a oi.dst v p1).symm,ih _ _ _ rZ I1 C0 (keep0 a h0 u) (keep1 a h1 u) ?_⟩
    rw [Array.setIfInBounds_comm _ _ tF,←Act.put_comm a v u p2]
    exact hK
   ·rename_i Ex
    simp only [Ex] at hh
    obtain ⟨u,hy,hK⟩:=hh
    refine ⟨u,hy.of_same (execOp_put oj Gt a oi.dst v p1).symm (wanted_put oj a oi.dst v p1).symm,ih _ _ _ rZ I1 C0 (keep0 a h0 u) (keep1 a h1 u) ?_⟩
    rw [Array.setIfInBounds_comm _ _ tF,←Act.put_comm a v u p2]
    exact hK
   ·rename_i Zi u7
    rcases hc with hc|hc
    ·split at hh
     ·exact absurd (by assumption) Zi
     ·exact absurd (by assumption) u7
     ·intro w hw
      have h2:=wpOp_put I0 Qy Gs Gt hQ (h0 hc) (hh w hw)
      refine wpOp_mono (fun a' w' h3=>?_) h2
      obtain ⟨hy,C',hC',hK⟩:=h3
      refine ⟨C',hC',ih _ _ _ rZ I1 C0 (fun _=>hy) (fun h=>by rw [hc] at h;cases h) ?_⟩
      rw [Array.setIfInBounds_comm _ _ tF]
      exact hK
    ·have h2:=(Gr hc).not_ready (mX hc) PB hj
     rw [(Gr hc).cov j tF PA (by
      rcases Nat.lt_or_ge (L.getD j 2) 2 with hl|hl
      ·have:L.getD j 2=0∨L.getD j 2=1:=by omega
       rcases this with h|h
       ·exact absurd h Zi
       ·exact absurd h u7
      ·exact hl)] at h2
     cases h2
def mT (md:Region.Mode) (ops:Array Oper) (i:Nat):Array Bool:=
 ops.foldl (fun acc o=>acc.push (o.after.any fun e=>Region.binds md e&&(e.on==i||acc.getD e.on false))) #[]
def PD (md:Region.Mode) (ops:Array Oper) (L:List Nat) (listed:Array Bool) (i:Nat):Bool:=
 let wt:=mT md ops i
 decide (wt.size=ops.size)&&(List.range ops.size).all fun j=>
  (j==i||listed.getD j true||decide (L.getD j 2<2)||wt.getD j false) &&
  (!wt.getD j false||(!listed.getD j false&&match ops[j]? with
   | some oj=>oj.after.any fun e=>Region.binds md e&&(e.on==i||wt.getD e.on false)
   | none=>false))
theorem LC {listed:Array Bool} {i:Nat} (hz:listed.size=ops.size) (h:PD md ops L listed i=true):oD md ops i (fun j=>(mT md ops i).getD j false)∧pK md ops L i (fun j=>(mT md ops i).getD j false) listed:=by
 simp only [PD,Bool.and_eq_true,decide_eq_true_eq,List.all_eq_true,List.mem_range] at h
 obtain ⟨hs,h⟩:=h
 have inr:∀ j,(mT md ops i).getD j false=true→j<ops.size:=fun j hj=>by
  rcases Nat.lt_or_ge j (mT md ops i).size with h'|h'
  ·omega
  ·simp [Array.getElem?_eq_none h'] at hj
 refine ⟨fun j hj=>?_,fun j hj=>?_,fun j tF iW hl=>?_⟩
 ·have h1:=(h j (inr j hj)).2
  simp only [hj,Bool.not_true,Bool.false_or,Bool.and_eq_true] at h1
  have h2:=h1.2
  split at h2
  ·rename_i oj I0
   obtain ⟨e,he,hb⟩:=Array.any_eq_true'.1 h2
   simp only [Bool.and_eq_true,Bool.or_eq_true,beq_iff_eq] at hb
   exact ⟨oj,I0,e,he,hb.1,hb.2⟩
  ·cases h2
 ·have h1:=(h j (inr j hj)).2
  simp only [hj,Bool.not_true,Bool.false_or,Bool.and_eq_true,Bool.not_eq_true'] at h1
  exact h1.1
 ·have hj:j<ops.size:=by
   rcases Nat.lt_or_ge j listed.size with h'|h'
   ·omega
   ·simp [Array.getElem?_eq_none h'] at iW
  have h1:=(h j hj).1
  simp only [Bool.or_eq_true,beq_iff_eq,tF,iW,decide_eq_true_eq] at h1
  rcases h1 with ((h1|h1)|h1)|h1
  ·exact h1.elim
  ·cases h1
  ·omega
  ·exact h1
def C1 (md:Region.Mode) (ops:Array Oper) (L:List Nat):List Nat→Array Bool→Bool
 | [],listed=>(Region.ready md ops listed).isEmpty
 | k::π,listed=>(Region.ready md ops listed).contains k&&(match L.getD k 2 with
   | 0=>Region.free md ops listed k
   | 1=>Region.free md ops listed k&&PD md ops L listed k
   | _=>Region.ready md ops listed==[k])&&C1 md ops L π (listed.setIfInBounds k true)
def wV (P:Program) (ops:Array Oper) (L:List Nat) (Q:Exit→Act→World→Prop):List Nat→Act→(World→Prop)→Prop
 | [],a,C=>∀ w,C w→Q .normal a w
 | k::π,a,C=>RX P ops L Q k (wV P ops L Q π) a C
theorem F5 {Q:Exit→Act→World→Prop} (hs:Region.noSelect ops=true) (hQ:∀ c a w,¬ Q (.panic c) a w):∀ (π:List Nat) (listed:Array Bool) (a:Act) (C:World→Prop),listed.size=ops.size →
  C1 md ops L π listed=true→wV P ops L Q π a C→rX P md ops L Q π.length listed a C
 | [],_,_,_,_,hB,h=>⟨by simpa [C1] using hB,h⟩
 | k::π,listed,a,C,hz,hB,h=>by
  simp only [C1,Bool.and_eq_true] at hB
  obtain ⟨⟨hr,hf⟩,hB'⟩:=hB
  have C0:k∈Region.ready md ops listed:=by simpa using hr
  have Zj:(listed.setIfInBounds k true).size=ops.size:=by simpa using hz
  have Qz:=fun a' C'=>F5 hs hQ π (listed.setIfInBounds k true) a' C' Zj hB'
  have h':RX P ops L Q k (rX P md ops L Q π.length (listed.setIfInBounds k true)) a C:=X8 Qz h
  have h2:=h'
  unfold RX at h2
  split at h2
  ·exact h2.elim
  ·rename_i o ho
   split at h2
   ·rename_i hc
    simp only [hc] at hf
    obtain ⟨v,hy,hK⟩:=h2
    exact xZ ho (Region.noSelect_spec hs) (fun c a w hh=>(hQ _ _ _ hh).elim) (fun _=>false) (fun hh=>by rw [hc] at hh;cases hh) (.inl hc) _ _ _ _ (Region.free_spec ho hf)
     (fun hh=>by rw [hc] at hh;cases hh) C0 (fun _=>hy) (fun hh=>by rw [hc] at hh;cases hh) hK
   ·rename_i hc
    simp only [hc,Bool.and_eq_true] at hf
    obtain ⟨v,hy,hK⟩:=h2
    obtain ⟨w1,w2⟩:=LC hz hf.2
    exact xZ ho (Region.noSelect_spec hs) (fun c a w hh=>(hQ _ _ _ hh).elim) _ (fun _=>w1) (.inr hc) _ _ _ _ (Region.free_spec ho hf.1)
     (fun _=>w2) C0 (fun hh=>by rw [hc] at hh;cases hh) (fun _=>hy) hK
   ·rename_i h0 h1
    have YB:Region.ready md ops listed=[k]:=by
     split at hf
     ·exact absurd (by assumption) h0
     ·exact absurd (by assumption) h1
     ·simpa using hf
    refine ⟨fun hh=>(by rw [YB] at hh;cases hh),fun i hi=>?_⟩
    rw [YB] at hi
    have:i=k:=by simpa using hi
    subst this
    exact h'
theorem aI {id:Nat} {Q:Exit→Act→World→Prop} {a:Act} {w:World} {l:List Oper} (L π:List Nat) (hm:P.follows .mixedOrders=true)
  (hB:(Region.noSelect l.toArray&&C1 .any l.toArray L π (Array.replicate l.length false)&&π.length==l.length)=true)
  (h:wV P l.toArray L (NoPanic Q) π a (fun w'=>∃ n,w'=w.drewN n)):(Code.region id l.toArray true).wp P Q a w:=by
 simp only [Bool.and_eq_true,beq_iff_eq] at hB
 obtain ⟨⟨hs,hp⟩,hl⟩:=hB
 refine wp_region_noPanic (wp_region_any hm ?_)
 have:=F5 (md:=.any) hs (fun c a w hh=>hh) π (Array.replicate l.length false) a _ (by simp) hp h
 rw [hl] at this
 have h2:=rY (md:=.any) _ _ _ _ { w with drawn:=w.drawn+1 } ⟨1,rfl⟩ this
 simpa using h2
theorem YC {Q:Exit→Act→World→Prop} {a:Act} {w:World} (h:∀ n,Q .normal a (w.drewN n)):wV P ops L (NoPanic Q) [] a (fun w'=>∃ n,w'=w.drewN n):=by
 rintro _ ⟨n,rfl⟩
 exact NoPanic.normal (h n)
theorem T5 {Q:Exit→Act→World→Prop} {a:Act} {C:World→Prop} {k:Nat} {π:List Nat} {o:Oper} (ho:ops[k]?=some o) (hc:L.getD k 2=0)
  (h:∀ K:Act→Prop,(∀ a,wV P ops L Q π a C→K a)→if Region.wanted o (yielded ops a.tmps) then O9 P o a K else K (a.put o.dst undef)):wV P ops L Q (k::π) a C:=by
 have:=h (fun a'=>wV P ops L Q π a' C) (fun _ h=>h)
 simp only [wV,RX,ho,hc]
 split at this
 ·rename_i hw
  obtain ⟨v,h1,h2⟩:=this
  refine ⟨v,.inl ⟨hw,fun w=>?_⟩,h2⟩
  have h3:=h1 w
  unfold wU at h3
  generalize (execOp a.eval o).run P w=r at *
  cases r with
  | ok n w'=>cases n<;>simp only [mY] at h3;rw [h3.1,h3.2]
  | halt x w'=>simp only [mY] at h3
 ·rename_i hw
  exact ⟨undef,.inr ⟨by simpa using hw,rfl⟩,this⟩
theorem PE {Q:Exit→Act→World→Prop} {a:Act} {C:World→Prop} {k:Nat} {π:List Nat} {o:Oper} (ho:ops[k]?=some o) (hc:L.getD k 2=1)
  (h:∀ K:Act→Prop,(∀ a,wV P ops L Q π a C→K a)→if Region.wanted o (yielded ops a.tmps) then o.quiet P a C K else K (a.put o.dst undef)):wV P ops L Q (k::π) a C:=by
 have:=h (fun a'=>wV P ops L Q π a' C) (fun _ h=>h)
 simp only [wV,RX,ho,hc]
 split at this
 ·rename_i hw
  obtain ⟨v,h1,h2⟩:=this
  exact ⟨v,.inl ⟨hw,h1⟩,h2⟩
 ·rename_i hw
  exact ⟨undef,.inr ⟨by simpa using hw,rfl⟩,this⟩
theorem bK {Q:Exit→Act→World→Prop} {a:Act} {w:World} {k:Nat} {π:List Nat} {o:Oper} (ho:ops[k]?=some o) (hc:L.getD k 2=2)
  (h:∀ (n:Nat) (K:Act→World→Prop),Shut (∀ a' w',wV P ops L Q π a' (fun w''=>∃ n,w''=w'.drewN n)→K a' w')→if Region.wanted o (yielded ops a.tmps)=true then Oper.wp P o a (w.drewN n) K Q else K (a.put o.dst undef) (w.drewN n)) :
  wV P ops L Q (k::π) a (fun w'=>∃ n,w'=w.drewN n):=by
 simp only [wV,RX,ho,hc]
 rintro _ ⟨n,rfl⟩
 refine wpOp_mono (fun a' w' h'=>⟨fun w''=>∃ n,w''=w'.drewN n,⟨0,rfl⟩,h'⟩) (wpOp_step ho fun K' hK=>h n K' hK)
end
theorem vP {p q:Prop} (h:q) (H:Vgo p q:=by constructor;intro rQ;replace rQ:=Lib.hid rQ;(repeat (first|(with_reducible refine YC (fun nz=>?_))|((with_reducible refine T5 rfl rfl (fun K hK=>?_));go_simp;refine hK _ ?_;clear hK K)|((with_reducible refine PE rfl rfl (fun K hK=>?_));go_simp;refine hK _ ?_;clear hK K)|((with_reducible refine bK rfl rfl (fun nz K hK=>?_));go_simp;refine hK.out _ _ ?_;clear hK K)));(repeat revert nz);exact rQ.out):p:=H.of h
end Go.Proofs.YtdjdjbpnbjdaaaaGreatDoor
namespace Go.Proofs.YtdjdjbpnbjdaaaaGreatDoor
open Go Go.RowKit Tryz
theorem F6 (x:Cx) (hx:x.Ok) (c:DC) (w:World) (v:DV) (rest:Bs) (e:Option EK) (buf:Bs) (h:bX x c w v rest e buf) (g cap:Nat) (arr:Array Value) (hv:v.bufv=.slice (some ⟨g,0,none⟩) buf.length cap)
  (hg:aJ w g arr 5) (gE:arr.size=cap) (yW:buf.length≤cap) (oB:∀ j,j<buf.length→arr[j]?=some (.int .u8 (buf.getD j 0).toNat))
  (n:Nat) (hn:1≤n) (hr:cap<buf.length+n) (kY:buf.length+n≤100000000000000) :
  Calls prog 98 #[.pointer (some ⟨x.d,7,none⟩),.int .i64 n] w fun en w'=>en=.returned (.int .i64 buf.length)∧∃ g cap arr,CY x c w v buf n w' g cap arr:=by
 have hc:=h.dec.cell
 have hf:=h.dec.frozen
 have bF:=Lib.hid (F4 x c w v rest e buf h)
 have HX:=Lib.hid hx
 have H:=Lib.hid h
 have Qv:=Lib.hid (fun k=>rW x.d c v (w.drewN k) h.dec _ _ _ n hv yW hr (by omega))
 have xI:=Lib.hid (fun k=>Tryz.bytes_growSlice_row g buf.length cap n arr (w.drewN k) hg gE yW hn (by omega) (by omega) (by
  intro u hu
  obtain ⟨j,hj,rfl⟩:=List.mem_iff_getElem.1 hu
  have hj':j<buf.length:=by simp at hj;omega
  have:=oB j hj'
  simp only [List.getElem_take]
  rw [Array.getElem?_eq_some_iff] at this
  obtain ⟨h1,h2⟩:=this
  simp [h2,Value.oneCell']))
 have xG:=Lib.hid oB
 have Zk:¬ ((9223372036854775807:Int)-(cap:Int)-(n:Int)<(cap:Int)):=by omega
 have hq:¬ ((n:Int)≤(cap:Int) / 2-(buf.length:Int)):=by omega
 have Zl:(cap:Int)≤100000000000000:=by omega
 have WX:(0:Int)≤(buf.length:Int):=by omega
 have eZ:(buf.length:Int)≤100000000000000:=by omega
 have Zm:(n:Int)≤100000000000000:=by omega
 have PF:IntKind.i64.wrap (n:Int)=n:=IntWalk.i64_in _ (by omega)
 obtain ⟨sb,sl,snb,serr,sline,sls,soff⟩:=v
 simp only at hv
 subst hv
 clear h hx oB hg
 obtain ⟨L,hL⟩:∃ L,L=buf.length:=⟨_,rfl⟩
 rw [←hL] at hc bF xI xG hq WX eZ H yW hr kY
 have HL:=Lib.hid hL
 rw [←hL]
 clear hL
 have hz:((L:Int)==0)=true∨((L:Int)==0)=false:=by cases ((L:Int)==0)<;>simp
 rcases hz with hz|hz
 all_goals
  go_enter func98,ntmps98
  go_wp2_with fail
  refine bF.out.mono ?_
  rintro e1 w1 ⟨rfl,k,rfl⟩
  have WW:∀ o,(w.drewN k).cell? ⟨x.d,o,none⟩=(rP c ⟨.slice (some ⟨g,0,none⟩) L cap,sl,snb,serr,sline,sls,soff⟩)[o]?:=hc
  have hf':∀ o,(w.drewN k).frozen? ⟨x.d,o,none⟩=false:=hf
  have a3V:=fun (w:World) (a:Option Addr) (n c:Nat)=>Lib.run_eql_slice_nil (P:=prog) w 77 5 a n c 0 0 underlying77
  go_wp2_with fail
  refine (Qv.out _).mono ?_
  rintro e2 w2 ⟨rfl,rfl⟩
  go_wp2_with fail
  (refine aI [0,0,0,0,1,0,0,0,1,1,0,0,0,1,0,1,2,0,0,2] [0,1,2,3,5,6,7,10,11,12,14,4,8,9,13,15,16,17,18,19] (by kernel_rfl) (by kernel_rfl) ?_;refine vP ?_;repeat with_reducible intro nq)
  refine bK rfl rfl (fun nq K hK=>?_)
  go_simp
  go_at_call 115
  refine (xI.out _).mono ?_
  rintro e3 w3 ⟨cap2,cells,rfl,k1,k2,k3,k4,k5,k6⟩
  have PG:=aJ.mod (w:=w) (w':=w3) (S:=fun _=>False) H.out.dec ⟨k6.os,k6.tape,k6.output,k6.size,fun i hi _=>k6.block i hi⟩ id
  have hc3:=PG.cell
  have hf3:=PG.frozen
  have Zn:=Lib.hid PG
  have HK1:=Lib.hid k1
  have HK3:=Lib.hid k3
  have Zo:=Lib.hid k6
  have h4:(L:Int)+(n:Int)≤(cap2:Int):=by omega
  have h5:(cap2:Int)≤9223372036854775807:=by unfold maxLen at k5;omega
  clear PG k1 k3 k6 k5
  go_wp2_with fail
  refine hK.out _ _ ?_
  clear hK K
  (refine vP ?_;repeat with_reducible intro nq)
  go_wp2
  go_ret
  have yU:w.heap.size≠x.d:=fun h=>by have:=H.out.dec.lt;omega
  have cD:aK (fun k=>k=x.d) w w3:=⟨Zo.out.os,Zo.out.tape,Zo.out.output,Zo.out.size,fun i hi _=>Zo.out.block i hi⟩
  have hb:aJ w3 w.heap.size cells 5:=HK1.out
  refine ⟨by trivial,w.heap.size,cap2,cells,?_,?_,by assumption,by rw [←HL.out];assumption,by omega,Nat.le_refl _,?_,?_⟩
  ·rw [←HL.out]
   exact ((Zn.out.set 7 (.slice (some ⟨w.heap.size,0,none⟩) L cap2)).set 8 (.int .i64 0)).set 7 (.slice (some ⟨w.heap.size,0,none⟩) (L+n) cap2)
  ·exact ((hb.set_ne (a:=⟨x.d,7,none⟩) yU (.slice (some ⟨w.heap.size,0,none⟩) L cap2)).set_ne (a:=⟨x.d,8,none⟩) yU (.int .i64 0)).set_ne (a:=⟨x.d,7,none⟩) yU (.slice (some ⟨w.heap.size,0,none⟩) (L+n) cap2)
  ·intro j hj
   have hjL:j<L:=by rw [HL.out];exact hj
   have h1:=xG.out j hjL
   have h2:=congrArg (fun l=>l[j]?) HK3.out
   simp only [List.getElem?_take,hjL,if_true,Array.getElem?_toList] at h2
   rw [h2];exact h1
  ·exact (((((cD.drewN _).setCell (p:=⟨x.d,7,none⟩) (Or.inl rfl) (.slice (some ⟨w.heap.size,0,none⟩) L cap2)).drewN _).setCell (p:=⟨x.d,8,none⟩) (Or.inl rfl) (.int .i64 0)).setCell (p:=⟨x.d,7,none⟩) (Or.inl rfl) (.slice (some ⟨w.heap.size,0,none⟩) (L+n) cap2))
theorem YD (x:Cx) (hx:x.Ok) (c:DC) (w:World) (v:DV) (rest:Bs) (e:Option EK) (buf:Bs) (h:bX x c w v rest e buf) (n:Nat) (hn:1≤n) (gK:n≤64)
  (hr:∀ a len cap,v.bufv=.slice (some a) len cap→cap<buf.length+n) (kY:buf.length+n≤100000000000000) :
  Calls prog 98 #[.pointer (some ⟨x.d,7,none⟩),.int .i64 n] w fun en w'=>en=.returned (.int .i64 buf.length)∧∃ g cap arr,CY x c w v buf n w' g cap arr:=by
 rcases h.bf with ⟨hv,hb⟩|⟨g,cap,arr,hv,hg,gE,hl,wT,F3,CX,oB⟩
 ·subst hb;exact X6 x hx c w v rest e h hv n hn gK
 ·exact F6 x hx c w v rest e buf h g cap arr hv hg gE hl oB n hn (hr _ _ _ hv) kY
theorem bX.s0lt {x:Cx} {c:DC} {w:World} {v:DV} {rest:Bs} {e:Option EK} {buf:Bs} (h:bX x c w v rest e buf) (k:Nat) (hk:x.S0 k):k<w.heap.size:=by
 obtain ⟨un,⟨r,q,n,lb,arr,s,us,h1,h2,_,h3,_⟩,_⟩:=h.inp
 rcases hk with hk|hk|hk|hk<;>subst hk
 ·exact aJ.lt h.dec
 ·exact h1.lt
 ·exact h2.lt
 ·exact h3.lt
theorem bX.more {x:Cx} (hx:x.Ok) {c:DC} {w:World} {v:DV} {rest:Bs} {e:Option EK} {buf:Bs} (h:bX x c w v rest e buf) (bs:Bs) (w':World) (v':DV) (g cap:Nat) (arr:Array Value)
  (dec:bO w' x.d c v') (rF:v'.bufv=.slice (some ⟨g,0,none⟩) (buf.length+bs.length) cap) (blk:aJ w' g arr 5) (sz:arr.size=cap) (cp:buf.length+bs.length≤cap) (cm:cap≤9223372036854775807)
  (hg:(dQ v.bufv g∧x.B≤g∧¬ x.S0 g)∨w.heap.size≤g) (el:∀ j,j<buf.length→arr[j]?=some (.int .u8 (buf.getD j 0).toNat)) (el2:∀ j,j<bs.length→arr[buf.length+j]?=some (.int .u8 (bs.getD j 0).toNat))
  (hm:aK (fun k=>k=x.d∨dQ v.bufv k) w w') (h1:v'.nb=v.nb) (h2:v'.err=v.err) (h3:v'.line=v.line) (h4:v'.lstart=v.lstart) (h5:v'.off=v.off) :
  bX x c w' v' rest e (buf++bs)∧v'.nb=v.nb∧cK x w v w' v':=by
 have hgg:x.B≤g∧¬ x.S0 g:=by
  rcases hg with ⟨_,b,c⟩|hg
  ·exact ⟨b,c⟩
  ·refine ⟨Nat.le_trans ?_ hg,fun hs=>?_⟩
   ·exact h.base.size
   ·have:=h.s0lt g hs;omega
 refine ⟨h.buf hx dec hm h1 h2 h3 h4 h5 (Or.inr ⟨g,cap,arr,by rw [List.length_append];exact rF,blk,sz,by rw [List.length_append];exact cp,cm,hgg.1,hgg.2,fun j hj=>?_⟩),h1,⟨hm.mono (fun k _ hk=>by
  rcases hk with hk|hk
  ·exact Or.inl (Or.inl hk)
  ·exact Or.inr hk),fun k hk=>?_⟩⟩
 ·rw [List.length_append] at hj
  by_cases Ey:j<buf.length
  ·rw [el j Ey];simp [List.getD_eq_getElem?_getD,List.getElem?_append_left Ey]
  ·have:=el2 (j-buf.length) (by omega)
   rw [show buf.length+(j-buf.length)=j by omega] at this
   rw [this];simp [List.getD_eq_getElem?_getD,List.getElem?_append_right (Nat.le_of_not_lt Ey)]
 ·rw [rF] at hk
  have:k=g:=hk
  subst this
  rcases hg with ⟨a,_⟩|hg
  ·exact Or.inl a
  ·exact Or.inr hg
theorem x1 {w w':World} {g:Nat} (h:w'.heap[g]?=w.heap[g]?) (j:Nat):w'.cell? ⟨g,j,none⟩=w.cell? ⟨g,j,none⟩:=by
 unfold World.cell?;simp [h]
def Gu (v:DV) (buf:Bs) (w w':World):Prop:=∀ g l cap,v.bufv=.slice (some ⟨g,0,none⟩) l cap→∀ j,j<buf.length→w'.cell? ⟨g,j,none⟩=w.cell? ⟨g,j,none⟩
theorem gF (x:Cx) (hx:x.Ok) (c:DC) (w:World) (v:DV) (rest:Bs) (e:Option EK) (buf:Bs) (h:bX x c w v rest e buf) (b:UInt8) (kY:buf.length≤50000000000000) :
  Calls prog 64 #[.pointer (some ⟨x.d,7,none⟩),.int .u8 b.toNat] w fun en w'=>en=.returned .nilIface∧∃ v',(bX x c w' v' rest e (buf++[b])∧v'.nb=v.nb∧cK x w v w' v')∧Gu v buf w w':=by
 have HX:=Lib.hid hx
 have LD:bO (w.setCell ⟨x.d,9,none⟩ (.int .i8 0)) x.d c { v with lastRead:=0 }:=h.dec.set 9 (.int .i8 0)
 have tR:aK (fun k=>k=x.d∨dQ v.bufv k) w (w.setCell ⟨x.d,9,none⟩ (.int .i8 0)):=(aK.refl _ w).setCell (Or.inl (Or.inl rfl)) _
 have PH:∀ k,dQ v.bufv k→k≠x.d:=fun k hk e=>h.bf.notS0 k hk (Or.inl e)
 have h9:bX x c (w.setCell ⟨x.d,9,none⟩ (.int .i8 0)) { v with lastRead:=0 } rest e buf:=h.buf hx LD tR rfl rfl rfl rfl rfl (h.bf.mod ((aK.refl (fun k=>k=x.d) w).setCell (p:=⟨x.d,9,none⟩) (Or.inl rfl) _) PH)
 have iZ:(∃ g cap arr,v.bufv=.slice (some ⟨g,0,none⟩) buf.length cap∧aJ w g arr 5∧arr.size=cap∧buf.length+1≤cap∧cap≤9223372036854775807∧x.B≤g∧¬ x.S0 g∧(∀ j,j<buf.length→arr[j]?=some (.int .u8 (buf.getD j 0).toNat))) ∨
   (∃ a l cap,v.bufv=.slice a l cap∧l≤cap∧cap<l+1∧cap≤9223372036854775807∧∀ a len cap,v.bufv=.slice (some a) len cap→cap<buf.length+1):=by
  rcases h.bf with ⟨hv,hb⟩|⟨g,cap,arr,hv,hg,gE,hl,wT,F3,CX,oB⟩
  ·exact Or.inr ⟨none,0,0,hv,by omega,by omega,by omega,fun a l c' h'=>by rw [hv] at h';cases h'⟩
  ·by_cases hr:buf.length+1≤cap
   ·exact Or.inl ⟨g,cap,arr,hv,hg,gE,hr,wT,F3,CX,oB⟩
   ·exact Or.inr ⟨_,_,_,hv,hl,by omega,wT,fun a l c' h'=>by rw [hv] at h';cases h';omega⟩
 have H:=Lib.hid h
 have H9:=Lib.hid h9
 have tG:=Lib.hid tR
 have hc:=h.dec.cell
 have hf:=h.dec.frozen
 have HB:=Lib.hid PH
 have WX:(0:Int)≤(buf.length:Int):=by omega
 clear h h9 tR PH hx
 rcases iZ with ⟨g,cap,arr,hv,hg,gE,hl,wT,F3,CX,oB⟩|⟨a,l,cap,hv,hl,hr,wT,tH⟩
 ·have YE:=Lib.hid (AS x.d c { v with lastRead:=0 } _ LD g buf.length cap 1 hv hl wT)
  have yU:x.d≠g:=fun e=>CX (Or.inl e.symm)
  have wW:g≠x.d:=fun e=>CX (Or.inl e)
  have hcg:=hg.cell
  have hfg:=hg.frozen
  have xG:=Lib.hid oB
  have HG:=Lib.hid hg
  have Xr:(buf.length:Int)<(buf.length:Int)+1:=by omega
  have kD:∃ u,arr[buf.length]?=some u:=by
   have:buf.length<arr.size:=by omega
   exact ⟨_,Array.getElem?_eq_getElem this⟩
  obtain ⟨u,hu⟩:=kD
  obtain ⟨sb,sl,snb,serr,sline,sls,soff⟩:=v
  simp only at hv
  subst hv
  obtain ⟨L,hL⟩:∃ L,L=buf.length:=⟨_,rfl⟩
  have HL:=Lib.hid hL
  rw [←hL] at hc YE WX Xr hu hl
  have HBg:=Lib.hid F3
  clear hL hg oB LD F3
  go_enter func64,ntmps64
  go_wp2_with fail
  refine YE.out.mono ?_
  rintro e1 w1 ⟨rfl,rfl⟩
  go_wp2
  go_ret
  have Gv:aJ w g arr 5:=HG.out
  refine ⟨by trivial,⟨.slice (some ⟨g,0,none⟩) (L+1) cap,0,snb,serr,sline,sls,soff⟩,(H.out.more HX.out [b] _ _ g cap (arr.setIfInBounds L (.int .u8 b.toNat)) ?_ (by rw [HL.out];rfl) ?_ (by simpa using gE) (by rw [←HL.out];exact hl) wT (Or.inl ⟨rfl,HBg.out,CX⟩) ?_ ?_ ?_ rfl rfl rfl rfl rfl),?_⟩
  ·exact aJ.set_ne (a:=⟨g,L,none⟩) (show aJ _ x.d _ _ from (H.out.dec.set 9 (.int .i8 0)).set 7 (.slice (some ⟨g,0,none⟩) (L+1) cap)) yU (.int .u8 b.toNat)
  ·exact ((Gv.set_ne (a:=⟨x.d,9,none⟩) wW (.int .i8 0)).set_ne (a:=⟨x.d,7,none⟩) wW (.slice (some ⟨g,0,none⟩) (L+1) cap)).set L (.int .u8 b.toNat)
  ·intro j hj
   rw [Array.getElem?_setIfInBounds_ne (by have:=HL.out;omega)];exact xG.out j hj
  ·intro j hj
   have:j=0:=by simpa using hj
   subst this
   rw [←HL.out,Array.getElem?_setIfInBounds]
   have:L<arr.size:=by omega
   simp [this]
  ·exact (((aK.refl _ w).setCell (p:=⟨x.d,9,none⟩) (Or.inl (Or.inl rfl)) (.int .i8 0)).setCell (p:=⟨x.d,7,none⟩) (Or.inl (Or.inl rfl)) (.slice (some ⟨g,0,none⟩) (L+1) cap)).setCell (p:=⟨g,L,none⟩) (Or.inl (Or.inr rfl)) (.int .u8 b.toNat)
  ·intro g' l' cap' he j hj
   cases he
   have h1:=(((Gv.set_ne (a:=⟨x.d,9,none⟩) wW (.int .i8 0)).set_ne (a:=⟨x.d,7,none⟩) wW (.slice (some ⟨g,0,none⟩) (L+1) cap)).set L (.int .u8 b.toNat)).cell j
   rw [Array.getElem?_setIfInBounds_ne (by have:=HL.out;omega)] at h1
   exact h1.trans (Gv.cell j).symm
 ·have YE:=Lib.hid (rW x.d c { v with lastRead:=0 } _ LD a l cap 1 hv hl hr wT)
  have xI:=Lib.hid (YD x HX.out c _ { v with lastRead:=0 } rest e buf H9.out 1 (by omega) (by omega) tH (by omega))
  obtain ⟨sb,sl,snb,serr,sline,sls,soff⟩:=v
  simp only at hv
  subst hv
  have eZ:(buf.length:Int)≤50000000000000:=by omega
  clear LD tH
  obtain ⟨L,hL⟩:∃ L,L=buf.length:=⟨_,rfl⟩
  have HL:=Lib.hid hL
  rw [←hL] at xI WX eZ
  clear hL
  go_enter func64,ntmps64
  go_wp2_with fail
  refine YE.out.mono ?_
  rintro e1 w1 ⟨rfl,rfl⟩
  go_wp2_with fail
  refine xI.out.mono ?_
  rintro e1 w1 ⟨rfl,g,cap',arr,hG⟩
  have Xr:(L:Int)<(L:Int)+1:=by omega
  have Gw:=hG.dec
  have I2:bO w1 x.d c ⟨.slice (some ⟨g,0,none⟩) (L+1) cap',0,snb,serr,sline,sls,soff⟩:=by rw [HL.out];exact Gw
  have u7:=I2.cell
  have KM:=aJ.frozen I2
  have hcg:=hG.blk.cell
  have hfg:=hG.blk.frozen
  have Rb:L+1≤cap':=by rw [HL.out];exact hG.cp
  have gE:=hG.sz
  have kD:∃ u,arr[L]?=some u:=by
   have:L<arr.size:=by omega
   exact ⟨_,Array.getElem?_eq_getElem this⟩
  obtain ⟨u,hu⟩:=kD
  have wW:g≠x.d:=fun e=>by
   have h1:=aJ.lt H9.out.dec
   have h2:=hG.new
   omega
  have yU:x.d≠g:=fun e=>wW e.symm
  have HG:=Lib.hid hG
  have HD:=Lib.hid I2
  clear hG Gw I2 hc hf
  go_wp2
  go_ret
  have PI:(w.setCell ⟨x.d,9,none⟩ (.int .i8 0)).heap.size=w.heap.size:=by simp [World.setCell]
  refine ⟨by trivial,⟨.slice (some ⟨g,0,none⟩) (L+1) cap',0,snb,serr,sline,sls,soff⟩,(H.out.more HX.out [b] _ _ g cap' (arr.setIfInBounds L (.int .u8 b.toNat)) ?_ (by rw [HL.out];rfl) ?_ (by simpa using gE) (by rw [←HL.out];exact Rb) HG.out.cm (Or.inr (by have:=HG.out.new;omega)) ?_ ?_ ?_ rfl rfl rfl rfl rfl),?_⟩
  ·exact aJ.set_ne (a:=⟨g,L,none⟩) (show aJ _ x.d _ _ from HD.out) yU (.int .u8 b.toNat)
  ·exact HG.out.blk.set L (.int .u8 b.toNat)
  ·intro j hj
   rw [Array.getElem?_setIfInBounds_ne (by have:=HL.out;omega)];exact HG.out.el j hj
  ·intro j hj
   have:j=0:=by simpa using hj
   subst this
   rw [←HL.out,Array.getElem?_setIfInBounds]
   have:L<arr.size:=by omega
   simp [this]
  ·refine aK.setCell ?_ (p:=⟨g,L,none⟩) (Or.inr (by have:=HG.out.new;show w.heap.size≤g;omega)) (.int .u8 b.toNat)
   exact tG.out.trans HG.out.mod (fun i _ hi=>Or.inl hi)
  ·intro g' l' cap' he j hj
   have T4:=H.out.bf
   rcases T4 with ⟨h1,h2⟩|⟨g0,cap0,arr0,h1,h2,_,_,_,_,h7,_⟩
   ·rw [h2] at hj;simp at hj
   ·simp only at h1 he
    rw [h1] at he
    simp only [Value.slice.injEq,oY,Addr.mk.injEq] at he
    obtain ⟨⟨hg0,_⟩,_⟩:=he
    subst hg0
    have bB:=h2.lt
    have xJ:g0≠x.d:=fun e=>h7 (Or.inl e)
    have hng:g0≠g:=fun e=>by
     have:=HG.out.new
     rw [PI] at this
     omega
    refine x1 ?_ j
    rw [dO _ _ _ _ hng]
    have hm:=HG.out.mod.block g0 (by rw [PI];exact bB) xJ
    rw [hm]
    exact dO w ⟨x.d,9,none⟩ _ g0 xJ
theorem gG (x:Cx) (hx:x.Ok) (c:DC) (w:World) (v:DV) (rest:Bs) (e:Option EK) (buf:Bs) (h:bX x c w v rest e buf) (b:UInt8) (kY:buf.length≤50000000000000) :
  Calls prog 64 #[.pointer (some ⟨x.d,7,none⟩),.int .u8 b.toNat] w fun en w'=>en=.returned .nilIface∧∃ v',bX x c w' v' rest e (buf++[b])∧v'.nb=v.nb∧cK x w v w' v':=
 (gF x hx c w v rest e buf h b kY).mono fun _ _ ⟨he,v',h1,_⟩=>⟨he,v',h1⟩
theorem RY (cur:Array Value) (l n:Nat) (bs:Bs) (hn:n=bs.length) (XT:l+n≤cur.size) (j:Nat) (hj:j<l):(cur.toList.take l++Lib.byteCells bs++cur.toList.drop (l+n)).toArray[j]?=cur[j]?:=by
 have hl:(cur.toList.take l).length=l:=by simp;omega
 simp only [List.getElem?_toArray,List.append_assoc]
 rw [List.getElem?_append_left (by omega),List.getElem?_take,if_pos hj,Array.getElem?_toList]
theorem RZ (cur:Array Value) (l n:Nat) (bs:Bs) (hn:n=bs.length) (XT:l+n≤cur.size) (j:Nat) (hj:j<bs.length):(cur.toList.take l++Lib.byteCells bs++cur.toList.drop (l+n)).toArray[l+j]?=some (.int .u8 (bs.getD j 0).toNat):=by
 have hl:(cur.toList.take l).length=l:=by simp;omega
 simp only [List.getElem?_toArray,List.append_assoc]
 rw [List.getElem?_append_right (by omega),hl,Nat.add_sub_cancel_left,List.getElem?_append_left (by rw [Lib.byteCells_length];exact hj)]
 simp [Lib.byteCells,List.getD_eq_getElem?_getD,List.getElem?_eq_getElem hj]
theorem LE (cur:Array Value) (l n:Nat) (bs:Bs) (hn:n=bs.length) (XT:l+n≤cur.size):(cur.toList.take l++Lib.byteCells bs++cur.toList.drop (l+n)).toArray.size=cur.size:=by
 simp only [List.size_toArray,List.length_append,List.length_take,List.length_drop,Array.length_toList,Lib.byteCells_length];omega
theorem oE (s:ByteArray):s.size=s.data.toList.length:=rfl
def cO (v:DV):Prop:=∃ k,dQ v.bufv k
theorem bX.more' {x:Cx} (hx:x.Ok) {c:DC} {w:World} {v:DV} {rest:Bs} {e:Option EK} {buf:Bs} (h:bX x c w v rest e buf) (bs:Bs) (w':World) (v':DV) (g cap:Nat) (arr:Array Value)
  (dec:bO w' x.d c v') (rF:v'.bufv=.slice (some ⟨g,0,none⟩) (buf.length+bs.length) cap) (blk:aJ w' g arr 5) (sz:arr.size=cap) (cp:buf.length+bs.length≤cap) (cm:cap≤9223372036854775807)
  (hg:(dQ v.bufv g∧x.B≤g∧¬ x.S0 g)∨w.heap.size≤g) (el:∀ j,j<buf.length→arr[j]?=some (.int .u8 (buf.getD j 0).toNat)) (el2:∀ j,j<bs.length→arr[buf.length+j]?=some (.int .u8 (bs.getD j 0).toNat))
  (hm:aK (fun k=>k=x.d∨dQ v.bufv k) w w') (h1:v'.nb=v.nb) (h2:v'.err=v.err) (h3:v'.line=v.line) (h4:v'.lstart=v.lstart) (h5:v'.off=v.off) :
  (bX x c w' v' rest e (buf++bs)∧v'.nb=v.nb∧cK x w v w' v')∧cO v':=
 ⟨h.more hx bs w' v' g cap arr dec rF blk sz cp cm hg el el2 hm h1 h2 h3 h4 h5,g,by rw [rF];rfl⟩
theorem FK (x:Cx) (hx:x.Ok) (c:DC) (w:World) (v:DV) (rest:Bs) (e:Option EK) (buf:Bs) (h:bX x c w v rest e buf) (o4:v.bufv≠.slice none 0 0) (s:ByteArray) (hs:s.size≤1000000000000) (kY:buf.length≤50000000000000) :
  Calls prog 92 #[.pointer (some ⟨x.d,7,none⟩),.string s] w fun en w'=>en=.returned (.tuple #[.int .i64 s.size,.nilIface])∧∃ v',(bX x c w' v' rest e (buf++s.data.toList)∧v'.nb=v.nb∧cK x w v w' v')∧cO v':=by
 have HX:=Lib.hid hx
 have LD:bO (w.setCell ⟨x.d,9,none⟩ (.int .i8 0)) x.d c { v with lastRead:=0 }:=h.dec.set 9 (.int .i8 0)
 have tR:aK (fun k=>k=x.d∨dQ v.bufv k) w (w.setCell ⟨x.d,9,none⟩ (.int .i8 0)):=(aK.refl _ w).setCell (Or.inl (Or.inl rfl)) _
 have PH:∀ k,dQ v.bufv k→k≠x.d:=fun k hk e=>h.bf.notS0 k hk (Or.inl e)
 have h9:bX x c (w.setCell ⟨x.d,9,none⟩ (.int .i8 0)) { v with lastRead:=0 } rest e buf:=h.buf hx LD tR rfl rfl rfl rfl rfl (h.bf.mod ((aK.refl (fun k=>k=x.d) w).setCell (p:=⟨x.d,9,none⟩) (Or.inl rfl) _) PH)
 rcases h.bf with ⟨hv,hb⟩|⟨g,cap,arr,hv,hg,gE,hl,wT,F3,CX,oB⟩
 ·exact absurd hv o4
 clear o4
 have Nd:aJ (w.setCell ⟨x.d,9,none⟩ (.int .i8 0)) g arr 5:=hg.set_ne (a:=⟨x.d,9,none⟩) (fun e=>CX (Or.inl e)) _
 have iZ:buf.length+s.size≤cap∨cap<buf.length+s.size:=by omega
 have H:=Lib.hid h
 have H9:=Lib.hid h9
 have tG:=Lib.hid tR
 have hc:=h.dec.cell
 have hf:=h.dec.frozen
 have WX:(0:Int)≤(buf.length:Int):=by omega
 have YF:(0:Int)≤(s.size:Int):=by omega
 have yU:x.d≠g:=fun e=>CX (Or.inl e.symm)
 have wW:g≠x.d:=fun e=>CX (Or.inl e)
 have eZ:(buf.length:Int)≤50000000000000:=by omega
 have xH:(s.size:Int)≤1000000000000:=by omega
 have xG:=Lib.hid oB
 have HG:=Lib.hid hg
 have HBg:=Lib.hid F3
 clear h h9 tR PH hx
 rcases iZ with hr|hr
 ·have YE:=Lib.hid (AS x.d c { v with lastRead:=0 } _ LD g buf.length cap s.size hv hr wT)
  have hcg:=hg.cell
  have hfg:=hg.frozen
  obtain ⟨sb,sl,snb,serr,sline,sls,soff⟩:=v
  simp only at hv
  subst hv
  have LF:=Lib.run_copy_row_string (P:=prog) ((w.setCell ⟨x.d,9,none⟩ (.int .i8 0)).setCell ⟨x.d,7,none⟩ (.slice (some ⟨g,0,none⟩) (buf.length+s.size) cap)) 77 9 3 5 g buf.length s.size (cap-buf.length) s arr 5 underlying77 tN
   (Nd.set_ne (a:=⟨x.d,7,none⟩) wW _) (Nat.le_refl _) (by omega)
  obtain ⟨L,hL⟩:∃ L,L=buf.length:=⟨_,rfl⟩
  have HL:=Lib.hid hL
  rw [←hL] at hc YE WX hl LF hr eZ
  have wD:(L:Int)+(s.size:Int)≤(cap:Int):=by omega
  have Zg:(L:Int)≤(L:Int)+(s.size:Int):=by omega
  have T6:(L:Int)+(s.size:Int)≤100000000000000:=by omega
  clear hL hg oB LD F3 Nd
  by_cases R0:cap=L
  ·have hz:s.size=0:=by omega
   have a3W:=fun (w:World) (a:Addr)=>Lib.run_copy_empty_string (P:=prog) w 77 9 3 5 (some a) 0 0 s underlying77 (by rw [Option.isSome_map];kernel_rfl) hz
   have HZ:=Lib.hid hz
   rw [hz] at YE
   have WY:=Lib.hid R0
   clear LF hz
   have a5Q:s.size=0:=HZ.out
   go_enter func92,ntmps92
   go_wp2_with fail
   refine YE.out.mono ?_
   rintro e1 w1 ⟨rfl,rfl⟩
   go_wp2
   go_ret2
   have Gv:aJ w g arr 5:=HG.out
   have HZ2:s.data.toList=[]:=List.eq_nil_of_length_eq_zero HZ.out
   refine ⟨by rw [HZ.out];rfl,⟨.slice (some ⟨g,0,none⟩) L L,0,snb,serr,sline,sls,soff⟩,H.out.more' HX.out s.data.toList _ _ g L arr ?_ (by rw [HL.out,HZ2];rfl) ?_ (by omega) (by rw [←HL.out,HZ2];simp) (by omega) (Or.inl ⟨rfl,HBg.out,CX⟩) xG.out (by rw [HZ2];simp) ?_ rfl rfl rfl rfl rfl⟩
   ·exact (H.out.dec.set 9 (.int .i8 0)).set 7 (.slice (some ⟨g,0,none⟩) L L)
   ·exact (Gv.set_ne (a:=⟨x.d,9,none⟩) wW (.int .i8 0)).set_ne (a:=⟨x.d,7,none⟩) wW (.slice (some ⟨g,0,none⟩) L L)
   ·exact (((aK.refl _ w).setCell (p:=⟨x.d,9,none⟩) (Or.inl (Or.inl rfl)) (.int .i8 0)).setCell (p:=⟨x.d,7,none⟩) (Or.inl (Or.inl rfl)) (.slice (some ⟨g,0,none⟩) L L))
  ·have a3X:(L:Int)<(cap:Int):=by omega
   rw [List.append_assoc] at LF
   go_enter func92,ntmps92
   go_wp2_with fail
   refine YE.out.mono ?_
   rintro e1 w1 ⟨rfl,rfl⟩
   go_wp2
   go_ret2
   have Gv:aJ w g arr 5:=HG.out
   refine ⟨rfl,⟨.slice (some ⟨g,0,none⟩) (L+s.size) cap,0,snb,serr,sline,sls,soff⟩,H.out.more' HX.out s.data.toList _ _ g cap (arr.toList.take L++Lib.byteCells s.data.toList++arr.toList.drop (L+s.size)).toArray ?_ (by rw [HL.out];rfl) ?_
    (by rw [LE _ _ _ _ (oE s) (by omega)];exact gE) (by rw [←HL.out];exact hr) wT (Or.inl ⟨rfl,HBg.out,CX⟩)
    (fun j hj=>by rw [RY _ _ _ _ (oE s) (by omega) _ (by rw [HL.out];exact hj)];exact xG.out j hj) (fun j hj=>by rw [←HL.out,RZ _ _ _ _ (oE s) (by omega) _ hj]) ?_ rfl rfl rfl rfl rfl⟩
   ·exact aJ.row_ne (show aJ _ x.d _ _ from (H.out.dec.set 9 (.int .i8 0)).set 7 (.slice (some ⟨g,0,none⟩) (L+s.size) cap)) yU _
   ·rw [List.append_assoc]
    exact ((Gv.set_ne (a:=⟨x.d,9,none⟩) wW (.int .i8 0)).set_ne (a:=⟨x.d,7,none⟩) wW (.slice (some ⟨g,0,none⟩) (L+s.size) cap)).row _
   ·exact (((aK.refl _ w).setCell (p:=⟨x.d,9,none⟩) (Or.inl (Or.inl rfl)) (.int .i8 0)).setCell (p:=⟨x.d,7,none⟩) (Or.inl (Or.inl rfl)) (.slice (some ⟨g,0,none⟩) (L+s.size) cap)).setRow (g:=g) (Or.inl (Or.inr rfl)) _
 ·have YE:=Lib.hid (rW x.d c { v with lastRead:=0 } _ LD (some ⟨g,0,none⟩) buf.length cap s.size hv hl hr wT)
  have xI:=Lib.hid (F6 x HX.out c _ { v with lastRead:=0 } rest e buf H9.out g cap arr hv Nd gE hl oB s.size (by omega) hr (by omega))
  obtain ⟨sb,sl,snb,serr,sline,sls,soff⟩:=v
  simp only at hv
  subst hv
  clear LD hg Nd oB F3
  obtain ⟨L,hL⟩:∃ L,L=buf.length:=⟨_,rfl⟩
  have HL:=Lib.hid hL
  rw [←hL] at xI WX eZ hc hr hl
  clear hL
  have T6:(L:Int)+(s.size:Int)≤100000000000000:=by omega
  have Zg:(L:Int)≤(L:Int)+(s.size:Int):=by omega
  go_enter func92,ntmps92
  go_wp2_with fail
  refine YE.out.mono ?_
  rintro e1 w1 ⟨rfl,rfl⟩
  go_wp2_with fail
  refine xI.out.mono ?_
  rintro e1 w1 ⟨rfl,g',cap',arr',hG⟩
  have Gw:=hG.dec
  have I2:bO w1 x.d c ⟨.slice (some ⟨g',0,none⟩) (L+s.size) cap',0,snb,serr,sline,sls,soff⟩:=by rw [HL.out];exact Gw
  have u7:=I2.cell
  have KM:=aJ.frozen I2
  have Rb:L+s.size≤cap':=by rw [HL.out];exact hG.cp
  have a3Y:=hG.sz
  have LF:=Lib.run_copy_row_string (P:=prog) w1 77 9 3 5 g' L s.size (cap'-L) s arr' 5 underlying77 tN hG.blk (Nat.le_refl _) (by omega)
  rw [List.append_assoc] at LF
  have a3X:(L:Int)<(cap':Int):=by omega
  have R0:¬ cap'=L:=by omega
  have a3Z:cap'≤9223372036854775807:=hG.cm
  have hr5:(L:Int)+(s.size:Int)≤(cap':Int):=by omega
  have a3a:g'≠x.d:=fun e=>by
   have h1:=aJ.lt H9.out.dec
   have h2:=hG.new
   omega
  have a3b:x.d≠g':=fun e=>a3a e.symm
  have Zp:=Lib.hid hG
  have HD:=Lib.hid I2
  clear hG Gw I2 hc hf
  go_wp2
  go_ret2
  have PI:(w.setCell ⟨x.d,9,none⟩ (.int .i8 0)).heap.size=w.heap.size:=by simp [World.setCell]
  refine ⟨rfl,⟨.slice (some ⟨g',0,none⟩) (L+s.size) cap',0,snb,serr,sline,sls,soff⟩,H.out.more' HX.out s.data.toList _ _ g' cap' (arr'.toList.take L++Lib.byteCells s.data.toList++arr'.toList.drop (L+s.size)).toArray ?_ (by rw [HL.out];rfl) ?_
    (by rw [LE _ _ _ _ (oE s) (by omega)];exact a3Y) (by rw [←HL.out];exact Rb) a3Z (Or.inr (by have:=Zp.out.new;omega))
    (fun j hj=>by rw [RY _ _ _ _ (oE s) (by omega) _ (by rw [HL.out];exact hj)];exact Zp.out.el j hj) (fun j hj=>by rw [←HL.out,RZ _ _ _ _ (oE s) (by omega) _ hj]) ?_ rfl rfl rfl rfl rfl⟩
  ·exact aJ.row_ne (show aJ _ x.d _ _ from HD.out) a3b _
  ·rw [List.append_assoc]
   exact Zp.out.blk.row _
  ·refine aK.setRow ?_ (g:=g') (Or.inr (by have:=Zp.out.new;omega)) _
   exact tG.out.trans Zp.out.mod (fun i _ hi=>Or.inl hi)
theorem nL.take {x:Cx} {w:World} {g:Nat} {cap:Nat} {buf:Bs} {arr:Array Value} (n:Nat) (hn:n≤buf.length) (hg:aJ w g arr 5) (gE:arr.size=cap) (hl:buf.length≤cap) (wT:cap≤9223372036854775807) (hB:x.B≤g) (hS:¬ x.S0 g)
  (oB:∀ j,j<buf.length→arr[j]?=some (.int .u8 (buf.getD j 0).toNat)):nL x w (.slice (some ⟨g,0,none⟩) n cap) (buf.take n):=by
 have bF:(buf.take n).length=n:=by simp;omega
 refine Or.inr ⟨g,cap,arr,by rw [bF],hg,gE,by omega,wT,hB,hS,fun j hj=>?_⟩
 rw [bF] at hj
 rw [oB j (by omega)]
 simp [List.getD_eq_getElem?_getD,hj]
theorem C2 (x:Cx) (hx:x.Ok) (c:DC) (w:World) (v:DV) (rest:Bs) (e:Option EK) (buf:Bs) (h:bX x c w v rest e buf) (n:Nat) (hn:n≤buf.length) :
  Calls prog 69 #[.pointer (some ⟨x.d,7,none⟩),.int .i64 n] w fun en w'=>en=.returned (.tuple #[])∧∃ v',bX x c w' v' rest e (buf.take n)∧v'.nb=v.nb∧(∀ k,dQ v'.bufv k↔dQ v.bufv k)∧aK x.S0 w w'∧w'.heap.size=w.heap.size:=by
 have hc:=h.dec.cell
 have hf:=h.dec.frozen
 have B1:=Lib.hid (rV x hx c w v rest e buf h)
 have LD:bO (w.setCell ⟨x.d,9,none⟩ (.int .i8 0)) x.d c { v with lastRead:=0 }:=h.dec.set 9 (.int .i8 0)
 have tR:aK (fun k=>k=x.d∨dQ v.bufv k) w (w.setCell ⟨x.d,9,none⟩ (.int .i8 0)):=(aK.refl _ w).setCell (Or.inl (Or.inl rfl)) _
 have PH:∀ k,dQ v.bufv k→k≠x.d:=fun k hk e=>h.bf.notS0 k hk (Or.inl e)
 have h9:bX x c (w.setCell ⟨x.d,9,none⟩ (.int .i8 0)) { v with lastRead:=0 } rest e buf:=h.buf hx LD tR rfl rfl rfl rfl rfl (h.bf.mod ((aK.refl (fun k=>k=x.d) w).setCell (p:=⟨x.d,9,none⟩) (Or.inl rfl) _) PH)
 have bF:=Lib.hid (F4 x c _ _ rest e buf h9)
 have pH:(0:Int)≤(n:Int):=by omega
 have hz:((n:Int)==0)=true∨((n:Int)==0)=false:=by cases ((n:Int)==0)<;>simp
 have HX:=Lib.hid hx
 rcases hz with hz|hz
 ·have:n=0:=by simpa using hz
  clear hc hf h h9 LD tR PH hx
  go_enter func69,ntmps69
  go_wp2_with fail
  refine B1.out.mono ?_
  rintro e1 w1 ⟨rfl,HV⟩
  have HV:=Lib.hid HV
  go_wp2
  (try simp only [Exit.inBlock,Exit.then])
  refine bodyPost_ret (results_none rfl _ _ _) rfl ?_
  subst this
  exact ⟨rfl,HV.out⟩
 ·have iL:n≠0:=by simpa using hz
  rcases h.bf with ⟨hv,hb⟩|⟨g,cap,arr,hv,hg,gE,hl,wT,F3,CX,oB⟩
  ·subst hb;simp at hn;omega
  have yU:x.d≠g:=fun e=>CX (Or.inl e.symm)
  have wW:g≠x.d:=fun e=>CX (Or.inl e)
  have H:=Lib.hid h
  have HG:=Lib.hid hg
  have xG:=Lib.hid oB
  have T4:=Lib.hid (fun (w':World) (hg':aJ w' g arr 5)=>nL.take (x:=x) n hn hg' gE hl wT F3 CX oB)
  have h1:(n:Int)≤(buf.length:Int):=by omega
  have h2:(buf.length:Int)≤(cap:Int):=by omega
  have h3:(n:Int)≤(cap:Int):=by omega
  have h4:(cap:Int)≤9223372036854775807:=by omega
  have hw:IntKind.i64.wrap (n:Int)=n:=IntWalk.i64_in _ (by omega)
  obtain ⟨sb,sl,snb,serr,sline,sls,soff⟩:=v
  simp only at hv
  subst hv
  clear h h9 LD tR PH hx hg oB F3
  go_enter func69,ntmps69
  go_wp2_with fail
  refine bF.out.mono ?_
  rintro e1 w1 ⟨rfl,k,rfl⟩
  go_wp2
  (refine aI [0,0,0,0,1,0,0,0,1,0,1,1,0,0,2] [0,1,2,3,5,6,7,9,4,8,10,11,12,13,14] (by kernel_rfl) (by kernel_rfl) ?_;refine vP ?_;repeat with_reducible intro nq)
  go_wp2
  go_end0
  have hd:bO ((w.setCell ⟨x.d,9,none⟩ (.int .i8 0)).setCell ⟨x.d,7,none⟩ (.slice (some ⟨g,0,none⟩) n cap)) x.d c ⟨.slice (some ⟨g,0,none⟩) n cap,0,snb,serr,sline,sls,soff⟩:=(H.out.dec.set 9 (.int .i8 0)).set 7 (.slice (some ⟨g,0,none⟩) n cap)
  have Gv:aJ w g arr 5:=HG.out
  have CU:=(Gv.set_ne (a:=⟨x.d,9,none⟩) wW (.int .i8 0)).set_ne (a:=⟨x.d,7,none⟩) wW (.slice (some ⟨g,0,none⟩) n cap)
  have hm:aK (fun k=>k=x.d) w ((w.setCell ⟨x.d,9,none⟩ (.int .i8 0)).setCell ⟨x.d,7,none⟩ (.slice (some ⟨g,0,none⟩) n cap)):=((aK.refl (fun k=>k=x.d) w).setCell (p:=⟨x.d,9,none⟩) (Or.inl rfl) (.int .i8 0)).setCell (p:=⟨x.d,7,none⟩) (Or.inl rfl) (.slice (some ⟨g,0,none⟩) n cap)
  have hr:=H.out.buf HX.out (v':=⟨.slice (some ⟨g,0,none⟩) n cap,0,snb,serr,sline,sls,soff⟩) hd (hm.mono (fun _ _ h=>Or.inl h)) rfl rfl rfl rfl rfl (T4.out _ CU)
  refine ⟨rfl,⟨.slice (some ⟨g,0,none⟩) n cap,0,snb,serr,sline,sls,soff⟩,?_,rfl,fun k=>Iff.rfl,?_,?_⟩
  ·exact ⟨⟨hr.base.os,hr.base.tape,hr.base.output,hr.base.size,hr.base.block⟩,hr.dec,hr.inp,hr.pos,hr.err,hr.fin,hr.bf⟩
  ·exact ⟨hm.os,hm.tape,hm.output,hm.size,fun i hi hs=>hm.block i hi (fun h=>hs (Or.inl h))⟩
  ·simp [World.setCell]
end Go.Proofs.YtdjdjbpnbjdaaaaGreatDoor
