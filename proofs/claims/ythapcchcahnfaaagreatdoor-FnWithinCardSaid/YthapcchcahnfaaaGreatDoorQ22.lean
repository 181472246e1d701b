/- Part of the proof that laws.FnWithin returns true for every argument. No conditions. -/
import Derived.Test.YthapcchcahnfaaaGreatDoorQ02
import Derived.Test.YthapcchcahnfaaaGreatDoorQ09
set_option linter.all false
set_option maxHeartbeats 8000000
set_option maxRecDepth 100000
namespace Go.Proofs.YthapcchcahnfaaaGreatDoor
open Go
theorem yE (f:Bool):bW f≠.other:=by unfold bW;split<;>decide
theorem JB (f:Bool):mL f≠.other:=by unfold mL;split<;>decide
abbrev sN {α:Type} (r:Except EK α):Prop:=r≠.error .other
theorem aW {α:Type} (f:Bool):sN (.error (bW f):Except EK α):=fun h=>yE f (by simpa using h)
theorem bF {α:Type}:sN (.error .syn:Except EK α):=fun h=>by cases h
theorem bO {α:Type} (a:α):sN (.ok a:Except EK α):=fun h=>by cases h
theorem AV (f a:Bool) (p r:Bs):sN (dO f a p r):=by
 unfold dO;split
 ·(first|exact aW _|exact bF|exact bO _)
 ·split<;>(first|exact aW _|exact bF|exact bO _)
theorem SN (f:Bool) (a:Option (Bs→Option Bs)) (r:Bs):sN (gR f a r):=by
 unfold gR;split
 ·(first|exact aW _|exact bF|exact bO _)
 ·split
  ·split
   ·(first|exact aW _|exact bF|exact bO _)
   ·split
    ·split
     ·(first|exact aW _|exact bF|exact bO _)
     ·exact AV _ _ _ _
    ·exact AV _ _ _ _
  ·split
   ·(first|exact aW _|exact bF|exact bO _)
   ·split<;>(first|exact aW _|exact bF|exact bO _)
theorem yF (o:cP) (q:Option UInt8) (f:Bool):∀ (n:Nat) (rest:Bs),rest.length≤n→∀ (b0 b1:UInt8) (a:Bs),sN (bD o q f rest b0 b1 a):=by
 intro n;induction n with
 | zero=>
  intro rest d b0 b1 a;have:rest=[]:=tZ (by omega);subst this;unfold bD;split
  ·(first|exact aW _|exact bF|exact bO _)
  ·split<;>(first|exact aW _|exact bF|exact bO _)
 | succ n ih=>
  intro rest d b0 b1 a;cases rest with
  | nil=>
   unfold bD;split
   ·(first|exact aW _|exact bF|exact bO _)
   ·split<;>(first|exact aW _|exact bF|exact bO _)
  | cons b t=>
   have g:t.length≤n:=by simp at d;omega
   unfold bD;split
   ·split
    ·split<;>(first|exact aW _|exact bF|exact bO _)
    ·(first|exact aW _|exact bF|exact bO _)
   ·split
    ·split
     ·split<;>(first|exact aW _|exact bF|exact bO _)
     ·(first|exact aW _|exact bF|exact bO _)
    ·split
     ·split<;>(first|exact aW _|exact bF|exact bO _)
     ·split
      ·split
       ·rename_i e c;intro h;simp only [Except.error.injEq] at h;subst h;exact SN _ _ _ c
       ·rename_i c;have:=gI c;exact ih _ (by omega) _ _ _
       ·rename_i c;have:=gI c;split
        ·(first|exact aW _|exact bF|exact bO _)
        ·exact ih _ (by omega) _ _ _
      ·exact ih _ g _ _ _
theorem D3 (f:Bool) (r:Bs):sN (dV f r):=by
 unfold dV;split
 ·(first|exact aW _|exact bF|exact bO _)
 ·split
  ·(first|exact aW _|exact bF|exact bO _)
  ·split<;>(first|exact aW _|exact bF|exact bO _)
theorem lA {α β:Type} {r:Except EK α} {e:EK} (h:sN r) (b:r=.error e):sN (.error e:Except EK β):=by
 intro a;simp only [Except.error.injEq] at a;subst a;exact h b
theorem sG (f:Bool) (r:Bs):sN (bZ f r):=by
 unfold bZ;split
 ·rename_i a;exact lA (D3 _ _) a
 ·split<;>(first|exact aW _|exact bF|exact bO _)
theorem D4 (o:cP) (r:Bs):sN (cK o r):=by
 unfold cK;split
 ·(first|exact aW _|exact bF|exact bO _)
 ·split
  ·exact yF _ _ _ _ _ (dC _) _ _ _
  ·split
   ·(first|exact aW _|exact bF|exact bO _)
   ·split<;>(first|exact aW _|exact bF|exact bO _)
theorem OS (o:cP) (r:Bs):sN (fC o r):=by
 unfold fC;split
 ·rename_i a;exact lA (sG _ _) a
 ·split
  ·(first|exact aW _|exact bF|exact bO _)
  ·split
   ·split
    ·rename_i a;exact lA (D4 _ _) a
    ·(first|exact aW _|exact bF|exact bO _)
   ·split<;>(first|exact aW _|exact bF|exact bO _)
theorem D5 {o:cP} {r b:Bs} {a:cV} (h:fC o r=.ok (a,b)):b.length<r.length:=(oB h).2
theorem AW (o:cP):∀ (k:Nat) (rest:Bs) (acc:List cV),rest.length<k→sN (cI o k rest acc)
 | 0,_,_,h=>by omega
 | k+1,rest,acc,h=>by
  unfold cI;split
  ·(first|exact aW _|exact bF|exact bO _)
  ·rename_i b i e;split
   ·split
    ·(first|exact aW _|exact bF|exact bO _)
    ·split<;>(first|exact aW _|exact bF|exact bO _)
   ·split
    ·(first|exact aW _|exact bF|exact bO _)
    ·split
     ·rename_i c;exact lA (OS _ _) c
     ·rename_i a f c;have g:=D5 c;have d:(aQ rest).length≤rest.length:=(eV rest).length_le;rw [e] at d;exact AW o k f _ (by omega)
theorem LF (o:cP) (r:Bs):sN (dX o r):=by
 unfold dX;split
 ·rename_i a;exact lA (sG _ _) a
 ·split
  ·rename_i a;exact lA (AW _ _ _ _ (Nat.lt_succ_self _)) a
  ·(first|exact aW _|exact bF|exact bO _)
theorem SO (o:cP) (r:Bs):sN (jW o r):=by
 unfold jW;split
 ·rename_i a;exact lA (sG _ _) a
 ·split
  ·(first|exact aW _|exact bF|exact bO _)
  ·split<;>(first|exact aW _|exact bF|exact bO _)
theorem vO (f:Bool):∀ (r:Bs) (b0 b1:UInt8) (a:Bs),sN (bR f r b0 b1 a)
 | [],_,_,_=>by unfold bR;(first|exact aW _|exact bF|exact bO _)
 | b::r,b0,b1,a=>by
  unfold bR;split
  ·split<;>(first|exact aW _|exact bF|exact bO _)
  ·exact vO f r _ _ _
theorem vQ (f:Bool):∀ (r:Bs) (b0 b1:UInt8),sN (cC f r b0 b1)
 | [],_,_=>by unfold cC;(first|exact aW _|exact bF|exact bO _)
 | b::r,b0,b1=>by
  unfold cC;split
  ·(first|exact aW _|exact bF|exact bO _)
  ·exact vQ f r _ _
theorem WO (f:Bool):∀ (n:Nat),(∀ (r:Bs),r.length≤n→∀ (b c:UInt8) (d:Int) (a:Bs),sN (fJ f b r c d a))∧(∀ (r:Bs),r.length≤n→∀ (c:UInt8) (d:Int) (a:Bs),sN (dL f r c d a)):=by
 intro n;induction n with
 | zero=>
  have g:∀ (r:Bs),r.length≤0→∀ (c:UInt8) (d:Int) (a:Bs),sN (dL f r c d a):=by
   intro r e c d a;have:r=[]:=tZ (by omega);subst this;unfold dL;(first|exact aW _|exact bF|exact bO _)
  refine ⟨fun r e b c d a=>?_,g⟩;have:r=[]:=tZ (by omega);subst this;unfold fJ;repeat' split
  all_goals first|(first|exact aW _|exact bF|exact bO _)|contradiction|exact g _ (by simp) _ _ _
 | succ n ih=>
  have g:∀ (r:Bs),r.length≤n+1→∀ (c:UInt8) (d:Int) (a:Bs),sN (dL f r c d a):=by
   intro r e c d a;cases r with
   | nil=>unfold dL;(first|exact aW _|exact bF|exact bO _)
   | cons b r=>
    unfold dL;split
    ·(first|exact aW _|exact bF|exact bO _)
    ·exact ih.1 _ (by simp at e;omega) _ _ _ _
  refine ⟨fun r e b c d a=>?_,g⟩;unfold fJ;split
  ·exact g _ e _ _ _
  ·split
   ·exact g _ e _ _ _
   ·split
    ·exact g _ e _ _ _
    ·split
     ·exact g _ e _ _ _
     ·split
      ·split
       ·(first|exact aW _|exact bF|exact bO _)
       ·simp only [gF] at e;split
        ·split
         ·(first|exact aW _|exact bF|exact bO _)
         ·simp only [gF] at e;split
          ·split
           ·(first|exact aW _|exact bF|exact bO _)
           ·simp only [gF] at e;split
            ·split
             ·rename_i h;exact lA (vQ _ _ _ _) h
             ·rename_i h;have:=iM h;exact ih.2 _ (by omega) _ _ _
            ·exact ih.1 _ (by omega) _ _ _ _
          ·exact ih.1 _ (by omega) _ _ _ _
        ·exact ih.1 _ (by omega) _ _ _ _
      ·exact g _ e _ _ _
theorem AX (f:Bool):∀ (p r:Bs),sN (dH f p r)
 | [],_=>by unfold dH;(first|exact aW _|exact bF|exact bO _)
 | _::_,[]=>by unfold dH;(first|exact aW _|exact bF|exact bO _)
 | p::ps,b::r=>by
  unfold dH;split
  ·exact AX f ps r
  ·(first|exact aW _|exact bF|exact bO _)
theorem yG (o:cP) (r:Bs):sN (gJ o r):=by
 unfold gJ;split
 ·(first|exact aW _|exact bF|exact bO _)
 ·split
  ·split
   ·(first|exact aW _|exact bF|exact bO _)
   ·split
    ·split
     ·rename_i a;exact lA (vO _ _ _ _ _) a
     ·(first|exact aW _|exact bF|exact bO _)
    ·(first|exact aW _|exact bF|exact bO _)
  ·split
   ·split
    ·rename_i a;exact lA (AX _ _ _) a
    ·split
     ·rename_i a;exact lA (yF _ _ _ _ _ (dC _) _ _ _) a
     ·(first|exact aW _|exact bF|exact bO _)
   ·split
    ·rename_i a;exact lA ((WO _ _).2 _ (dC _) _ _ _) a
    ·(first|exact aW _|exact bF|exact bO _)
abbrev vR {α:Type} (f:Bool) (r:Except EK α):Prop:=∀ e,r=.error e→e=.syn∨e=bW f
theorem aY {α:Type} (f:Bool):vR f (.error (bW f):Except EK α):=fun e h=>aX (by simpa using h.symm)
theorem bG {α:Type} {f:Bool}:vR f (.error .syn:Except EK α):=fun e h=>aG (by simpa using h.symm)
theorem bS {α:Type} {f:Bool} (a:α):vR f (.ok a:Except EK α):=fun e h=>by cases h
theorem AY (f a:Bool) (p r:Bs):vR f (dO f a p r):=by
 unfold dO;split
 ·(first|exact aY _|exact bG|exact bS _)
 ·split<;>(first|exact aY _|exact bG|exact bS _)
theorem SP (f:Bool) (a:Option (Bs→Option Bs)) (r:Bs):vR f (gR f a r):=by
 unfold gR;split
 ·(first|exact aY _|exact bG|exact bS _)
 ·split
  ·split
   ·(first|exact aY _|exact bG|exact bS _)
   ·split
    ·split
     ·(first|exact aY _|exact bG|exact bS _)
     ·exact AY _ _ _ _
    ·exact AY _ _ _ _
  ·split
   ·(first|exact aY _|exact bG|exact bS _)
   ·split<;>(first|exact aY _|exact bG|exact bS _)
theorem yH (o:cP) (q:Option UInt8) (f:Bool):∀ (n:Nat) (rest:Bs),rest.length≤n→∀ (b0 b1:UInt8) (a:Bs),vR o.fails (bD o q f rest b0 b1 a):=by
 intro n;induction n with
 | zero=>
  intro rest d b0 b1 a;have:rest=[]:=tZ (by omega);subst this;unfold bD;split
  ·(first|exact aY _|exact bG|exact bS _)
  ·split<;>(first|exact aY _|exact bG|exact bS _)
 | succ n ih=>
  intro rest d b0 b1 a;cases rest with
  | nil=>
   unfold bD;split
   ·(first|exact aY _|exact bG|exact bS _)
   ·split<;>(first|exact aY _|exact bG|exact bS _)
  | cons b t=>
   have g:t.length≤n:=by simp at d;omega
   unfold bD;split
   ·split
    ·split<;>(first|exact aY _|exact bG|exact bS _)
    ·(first|exact aY _|exact bG|exact bS _)
   ·split
    ·split
     ·split<;>(first|exact aY _|exact bG|exact bS _)
     ·(first|exact aY _|exact bG|exact bS _)
    ·split
     ·split<;>(first|exact aY _|exact bG|exact bS _)
     ·split
      ·split
       ·rename_i e c;intro i h;simp only [Except.error.injEq] at h;subst h;exact SP _ _ _ _ c
       ·rename_i c;have:=gI c;exact ih _ (by omega) _ _ _
       ·rename_i c;have:=gI c;split
        ·(first|exact aY _|exact bG|exact bS _)
        ·exact ih _ (by omega) _ _ _
      ·exact ih _ g _ _ _
theorem D6 (f:Bool) (r:Bs):vR f (dV f r):=by
 unfold dV;split
 ·(first|exact aY _|exact bG|exact bS _)
 ·split
  ·(first|exact aY _|exact bG|exact bS _)
  ·split<;>(first|exact aY _|exact bG|exact bS _)
theorem lV {α β:Type} {f:Bool} {r:Except EK α} {e:EK} (h:vR f r) (b:r=.error e):vR f (.error e:Except EK β):=by
 intro c a;simp only [Except.error.injEq] at a;subst a;exact h _ b
theorem sH (f:Bool) (r:Bs):vR f (bZ f r):=by
 unfold bZ;split
 ·rename_i a;exact lV (D6 _ _) a
 ·split<;>(first|exact aY _|exact bG|exact bS _)
theorem D7 (o:cP) (r:Bs):vR o.fails (cK o r):=by
 unfold cK;split
 ·(first|exact aY _|exact bG|exact bS _)
 ·split
  ·exact yH _ _ _ _ _ (dC _) _ _ _
  ·split
   ·(first|exact aY _|exact bG|exact bS _)
   ·split<;>(first|exact aY _|exact bG|exact bS _)
theorem OT (o:cP) (r:Bs):vR o.fails (fC o r):=by
 unfold fC;split
 ·rename_i a;exact lV (sH _ _) a
 ·split
  ·(first|exact aY _|exact bG|exact bS _)
  ·split
   ·split
    ·rename_i a;exact lV (D7 _ _) a
    ·(first|exact aY _|exact bG|exact bS _)
   ·split<;>(first|exact aY _|exact bG|exact bS _)
theorem AZ (o:cP):∀ (k:Nat) (rest:Bs) (acc:List cV),rest.length<k→vR o.fails (cI o k rest acc)
 | 0,_,_,h=>by omega
 | k+1,rest,acc,h=>by
  unfold cI;split
  ·(first|exact aY _|exact bG|exact bS _)
  ·rename_i b i e;split
   ·split
    ·(first|exact aY _|exact bG|exact bS _)
    ·split<;>(first|exact aY _|exact bG|exact bS _)
   ·split
    ·(first|exact aY _|exact bG|exact bS _)
    ·split
     ·rename_i c;exact lV (OT _ _) c
     ·rename_i a f c;have g:=D5 c;have d:(aQ rest).length≤rest.length:=(eV rest).length_le;rw [e] at d;exact AZ o k f _ (by omega)
theorem LG (o:cP) (r:Bs):vR o.fails (dX o r):=by
 unfold dX;split
 ·rename_i a;exact lV (sH _ _) a
 ·split
  ·rename_i a;exact lV (AZ _ _ _ _ (Nat.lt_succ_self _)) a
  ·(first|exact aY _|exact bG|exact bS _)
theorem SQ (o:cP) (r:Bs):vR o.fails (jW o r):=by
 unfold jW;split
 ·rename_i a;exact lV (sH _ _) a
 ·split
  ·(first|exact aY _|exact bG|exact bS _)
  ·split<;>(first|exact aY _|exact bG|exact bS _)
theorem vU (f:Bool):∀ (r:Bs) (b0 b1:UInt8) (a:Bs),vR f (bR f r b0 b1 a)
 | [],_,_,_=>by unfold bR;(first|exact aY _|exact bG|exact bS _)
 | b::r,b0,b1,a=>by
  unfold bR;split
  ·split<;>(first|exact aY _|exact bG|exact bS _)
  ·exact vU f r _ _ _
theorem vV (f:Bool):∀ (r:Bs) (b0 b1:UInt8),vR f (cC f r b0 b1)
 | [],_,_=>by unfold cC;(first|exact aY _|exact bG|exact bS _)
 | b::r,b0,b1=>by
  unfold cC;split
  ·(first|exact aY _|exact bG|exact bS _)
  ·exact vV f r _ _
theorem WP (f:Bool):∀ (n:Nat),(∀ (r:Bs),r.length≤n→∀ (b c:UInt8) (d:Int) (a:Bs),vR f (fJ f b r c d a))∧(∀ (r:Bs),r.length≤n→∀ (c:UInt8) (d:Int) (a:Bs),vR f (dL f r c d a)):=by
 intro n;induction n with
 | zero=>
  have g:∀ (r:Bs),r.length≤0→∀ (c:UInt8) (d:Int) (a:Bs),vR f (dL f r c d a):=by
   intro r e c d a;have:r=[]:=tZ (by omega);subst this;unfold dL;(first|exact aY _|exact bG|exact bS _)
  refine ⟨fun r e b c d a=>?_,g⟩;have:r=[]:=tZ (by omega);subst this;unfold fJ;repeat' split
  all_goals first|(first|exact aY _|exact bG|exact bS _)|contradiction|exact g _ (by simp) _ _ _
 | succ n ih=>
  have g:∀ (r:Bs),r.length≤n+1→∀ (c:UInt8) (d:Int) (a:Bs),vR f (dL f r c d a):=by
   intro r e c d a;cases r with
   | nil=>unfold dL;(first|exact aY _|exact bG|exact bS _)
   | cons b r=>
    unfold dL;split
    ·(first|exact aY _|exact bG|exact bS _)
    ·exact ih.1 _ (by simp at e;omega) _ _ _ _
  refine ⟨fun r e b c d a=>?_,g⟩;unfold fJ;split
  ·exact g _ e _ _ _
  ·split
   ·exact g _ e _ _ _
   ·split
    ·exact g _ e _ _ _
    ·split
     ·exact g _ e _ _ _
     ·split
      ·split
       ·(first|exact aY _|exact bG|exact bS _)
       ·simp only [gF] at e;split
        ·split
         ·(first|exact aY _|exact bG|exact bS _)
         ·simp only [gF] at e;split
          ·split
           ·(first|exact aY _|exact bG|exact bS _)
           ·simp only [gF] at e;split
            ·split
             ·rename_i h;exact lV (vV _ _ _ _) h
             ·rename_i h;have:=iM h;exact ih.2 _ (by omega) _ _ _
            ·exact ih.1 _ (by omega) _ _ _ _
          ·exact ih.1 _ (by omega) _ _ _ _
        ·exact ih.1 _ (by omega) _ _ _ _
      ·exact g _ e _ _ _
theorem A0 (f:Bool):∀ (p r:Bs),vR f (dH f p r)
 | [],_=>by unfold dH;(first|exact aY _|exact bG|exact bS _)
 | _::_,[]=>by unfold dH;(first|exact aY _|exact bG|exact bS _)
 | p::ps,b::r=>by
  unfold dH;split
  ·exact A0 f ps r
  ·(first|exact aY _|exact bG|exact bS _)
theorem OU (o:cP) (r:Bs):vR o.fails (gJ o r):=by
 unfold gJ;split
 ·(first|exact aY _|exact bG|exact bS _)
 ·split
  ·split
   ·(first|exact aY _|exact bG|exact bS _)
   ·split
    ·split
     ·rename_i a;exact lV (vU _ _ _ _ _) a
     ·(first|exact aY _|exact bG|exact bS _)
    ·(first|exact aY _|exact bG|exact bS _)
  ·split
   ·split
    ·rename_i a;exact lV (A0 _ _ _) a
    ·split
     ·rename_i a;exact lV (yH _ _ _ _ _ (dC _) _ _ _) a
     ·(first|exact aY _|exact bG|exact bS _)
   ·split
    ·rename_i a;exact lV ((WP _ _).2 _ (dC _) _ _ _) a
    ·(first|exact aY _|exact bG|exact bS _)
theorem D8 (f:Bool):∀ (r:Bs) (b0:UInt8) (a:Bs),vR f (fY f r b0 a)
 | [],_,_=>by unfold fY;(first|exact aY _|exact bG|exact bS _)
 | b::r,b0,a=>by
  unfold fY;split
  ·(first|exact aY _|exact bG|exact bS _)
  ·exact D8 f r _ _
theorem WQ (o:cP) (r:Bs) (h:tY o r≠.error .other):vR o.fails (tY o r):=by
 intro e a;unfold tY at a h;cases b:dV o.fails r with
 | error e'=>
  rw [b] at a;simp only [Except.error.injEq] at a;subst a;exact D6 _ _ _ b
 | ok x=>
  obtain ⟨i,f⟩:=x;rw [b] at a h;simp only at a h;cases c:fY o.fails (aQ f) 0 [] with
  | error e'=>
   rw [c] at a;simp only [Except.error.injEq] at a;subst a;exact D8 _ _ _ _ _ c
  | ok y=>
   obtain ⟨s,g⟩:=y;rw [c] at a h;simp only at a h;split at a
   ·rename_i d;rw [aT d] at h;exact absurd rfl h
   ·cases a
theorem yI (f:Bool):∀ (p r:Bs),dH f p (p++r)=.ok r
 | [],r=>by simp [dH]
 | c::p,r=>by rw [iZ,dH,aT rfl];exact yI f p r
theorem D9 {f:Bool}:∀ {p l r:Bs},dH f p l=.ok r→l=p++r
 | [],l,r,h=>by unfold dH at h;simpa using h
 | c::p,[],r,h=>by unfold dH at h;cases h
 | c::p,b::l,r,h=>by
  unfold dH at h;split at h
  ·rename_i a;subst a;rw [D9 h];rfl
  ·cases h
def GR (t:aU) (em:Bool):Option (Bs×Bs):=
 match t with
 | .start nm _=>if em then some nm else none
 | _=>none
theorem SR (o:cP) {r g:Bs} {t:aU} (h:lY r=.ok (t,g)):gJ o r=.ok (t,g)∧∀ em,GR t em=none:=by
 unfold lY at h;split at h
 ·rename_i b;obtain ⟨y,rfl⟩:=List.isPrefixOf_iff_prefix.1 b;rw [show (([45,45]:Bs)++y).drop 2=y from rfl] at h;cases a:dJ y with
  | error e=>rw [a] at h;cases h
  | ok x=>
   obtain ⟨d,f⟩:=x;rw [a] at h;simp only [bT,bP] at h;obtain ⟨rfl,rfl⟩:=h;refine ⟨?_,fun _=>rfl⟩;unfold gJ;simp only [iZ,List.nil_append,if_true];rw [F1 a]
 ·split at h
  ·rename_i b;obtain ⟨y,rfl⟩:=List.isPrefixOf_iff_prefix.1 b;rw [show (BN++y).drop 7=y from rfl] at h;cases a:eP ((BN++y).length+1) y [] with
   | error e=>rw [a] at h;cases h
   | ok x=>
    obtain ⟨d,f⟩:=x;rw [a] at h;simp only [bT,bP] at h;obtain ⟨rfl,rfl⟩:=h;refine ⟨?_,fun _=>rfl⟩;have c:=sU o _ y 0 0 [] d f a (.of (by decide) (by decide)) iO;have i:=yI o.fails [67,68,65,84,65,91] y;unfold gJ;rw [show BN++y=91::([67,68,65,84,65,91]++y) from rfl];simp only;rw [aM (by decide)];simp only [if_true];rw [i];simp only;rw [c]
  ·split at h
   ·rename_i b;obtain ⟨y,rfl⟩:=List.isPrefixOf_iff_prefix.1 b;rw [show (rM++y).drop 7=y from rfl] at h;cases a:oZ y with
    | error e=>rw [a] at h;cases h
    | ok x=>
     obtain ⟨d,f⟩:=x;rw [a] at h;simp only [bT,bP] at h;obtain ⟨rfl,rfl⟩:=h;refine ⟨?_,fun _=>rfl⟩;have c:=V0 o a;unfold gJ;rw [show rM++y=68::([79,67,84,89,80,69]++y) from rfl];simp only;rw [aM (by decide),aM (by decide),c]
   ·split at h
    ·cases h
    ·split at h<;>cases h
theorem OV (o:cP) {r:Bs} (h:lY r=.error .bad) (x:aU×Bs):gJ o r≠.ok x:=by
 unfold lY at h;split at h
 ·rename_i g;obtain ⟨y,rfl⟩:=List.isPrefixOf_iff_prefix.1 g;rw [show (([45,45]:Bs)++y).drop 2=y from rfl] at h;have a:dJ y=.error .bad:=by
   cases a:dJ y with
   | error e=>rw [a] at h;simpa using h
   | ok z=>rw [a] at h;cases h
  unfold gJ;simp only [iZ,List.nil_append,if_true];cases j:bR o.fails y 0 0 [] with
  | error e=>simp
  | ok z=>exact absurd j (DG a z.1 z.2)
 ·rename_i k;split at h
  ·rename_i g;obtain ⟨y,rfl⟩:=List.isPrefixOf_iff_prefix.1 g;rw [show (BN++y).drop 7=y from rfl] at h;have a:eP ((BN++y).length+1) y []=.error .bad:=by
    cases a:eP ((BN++y).length+1) y [] with
    | error e=>rw [a] at h;simpa using h
    | ok z=>rw [a] at h;cases h
   have l:=yI o.fails [67,68,65,84,65,91] y;unfold gJ;rw [show BN++y=91::([67,68,65,84,65,91]++y) from rfl];simp only;rw [aM (by decide)];simp only [if_true];rw [l];simp only;cases j:bD o none true y 0 0 [] with
   | error e=>simp
   | ok z=>exact absurd j (pW o _ y 0 0 [] a (.of (by decide) (by decide)) iO z.1 z.2)
  ·rename_i f;split at h
   ·rename_i g;exfalso;generalize r.drop 7=y at h;cases a:oZ y with
    | ok z=>rw [a] at h;cases h
    | error e=>
     rw [a] at h;simp only [Except.error.injEq] at h;subst h;unfold oZ at a;split at a
     ·cases a
     ·split at a
      ·cases a
      ·split at a<;>cases a
   ·cases r with
    | nil=>unfold gJ;simp
    | cons b t=>
     simp only at h;split at h
     ·rename_i m;unfold gJ;simp only;by_cases d:b=45
      ·subst d;rw [aT rfl];cases t with
       | nil=>simp
       | cons c t2=>
        simp only;by_cases a:c=45
        ·subst a;exact absurd (show ([45,45]:Bs).isPrefixOf (45::45::t2)=true by simp [List.isPrefixOf]) k
        ·rw [aM a];simp
      ·have i:b=91:=m.resolve_left d;subst i;rw [aM d,aT rfl];cases n:dH o.fails [67,68,65,84,65,91] t with
       | error e=>simp
       | ok z=>
        rw [D9 n] at f;exact absurd (by rw [List.isPrefixOf_iff_prefix];exact ⟨z,rfl⟩) f
     ·cases h
theorem WR (o:cP) {r i:Bs} {nm:Bs×Bs} (h:nS r=.ok (nm,i)):jW o r=.ok (.fin nm,i):=by
 unfold nS at h;cases c:fP r with
 | error e=>rw [c] at h;cases h
 | ok x=>
  obtain ⟨m,g⟩:=x;rw [c] at h;obtain ⟨l,_,_,_⟩:=nC (f:=o.fails) c;cases a:aQ g with
  | nil=>simp only [a] at h;cases h
  | cons b t=>
   simp only [a] at h;have d:g≠[]:=fun k=>by rw [k] at a;cases a
   unfold jW;rw [l d];simp only [a];split at h
   ·rename_i j;simp only [bT,bP] at h;obtain ⟨rfl,rfl⟩:=h;rw [aT j]
   ·cases h
theorem SS (o:cP) {r:Bs} (h:nS r=.error .bad) (x:aU×Bs):jW o r≠.ok x:=by
 unfold nS at h;unfold jW;cases c:fP r with
 | error e=>
  rw [c] at h;simp only [Except.error.injEq] at h;subst h;cases j:bZ o.fails r with
  | error e=>simp
  | ok z=>exact absurd j (xR c z)
 | ok y=>
  obtain ⟨m,g⟩:=y;rw [c] at h;obtain ⟨k,l,_,_⟩:=nC (f:=o.fails) c;by_cases a:g=[]
  ·rw [l a];simp
  ·rw [k a];cases d:aQ g with
   | nil=>simp only [d];simp
   | cons b t=>
    simp only [d] at h ⊢;split at h
    ·cases h
    ·rename_i i;rw [aM i];simp
theorem OW (o:cP) {ents:aN} (l:kE o.ents ents) {r j:Bs} {nm:Bs×Bs} {a:List cV} {em:Bool} (h:fA ents r=.ok (nm,a,em,j)):dX o r=.ok ((nm,a),em,j):=by
 unfold fA at h;cases c:fP r with
 | error e=>rw [c] at h;cases h
 | ok x=>
  obtain ⟨p,g⟩:=x;rw [c] at h;simp only at h;obtain ⟨n,_,_,_⟩:=nC (f:=o.fails) c;cases b:dD ents (g.length+1) g [] with
  | error e=>rw [b] at h;cases h
  | ok y=>
   obtain ⟨i,k,q⟩:=y;rw [b] at h;simp only [bT,bP] at h;obtain ⟨rfl,rfl,rfl,rfl⟩:=h;have d:g≠[]:=fun m=>by rw [m] at b;simp [dD,aQ] at b
   unfold dX;rw [n d];simp only;rw [DI o l _ _ _ _ _ _ b]
theorem LH (o:cP) {ents:aN} (j:kE o.ents ents) (i:o.strict=true) (g:pU o) {r:Bs} (h:fA ents r=.error .bad) (x:((Bs×Bs)×List cV)×Bool×Bs):dX o r≠.ok x:=by
 unfold fA at h;unfold dX;cases c:fP r with
 | error e=>
  rw [c] at h;simp only [Except.error.injEq] at h;subst h;cases l:bZ o.fails r with
  | error e=>simp
  | ok z=>exact absurd l (xR c z)
 | ok y=>
  obtain ⟨p,b⟩:=y;rw [c] at h;simp only at h;obtain ⟨m,n,_,_⟩:=nC (f:=o.fails) c;by_cases a:b=[]
  ·rw [n a];simp
  ·rw [m a];simp only;cases d:dD ents (b.length+1) b [] with
   | ok y=>rw [d] at h;cases h
   | error e=>
    rw [d] at h;simp only [Except.error.injEq] at h;subst h;cases k:cI o (b.length+1) b [] with
    | error e=>simp
    | ok z=>exact absurd k (AI o j i g _ _ _ d z)
theorem EA (o:cP) {ents:aN} (z:kE o.ents ents) {first em:Bool} {t:aU} {r:Bs} (st:St) (w:st.ended=false) (y:st.toClose=none) (h:kB ents first st.rest=.ok (t,em,r)) :
  ∃ v,eC o st=.ok (t,{ st with rest:=r,toClose:=GR t em,ended:=v })∧(v=true→r=[]∧∃ d,t=.text d):=by
 obtain ⟨rest,g,f,E,F,next⟩:=st;simp only at w y h ⊢;subst w y;unfold kB at h;cases rest with
 | nil=>cases h
 | cons b l=>
  simp only at h;split at h
  ·rename_i p;cases q:dU ents ((b::l).length+1) (b::l) [] with
   | error e=>rw [q] at h;cases h
   | ok x=>
    obtain ⟨d,A⟩:=x;rw [q] at h;simp only [bT,bP] at h;obtain ⟨rfl,rfl,rfl⟩:=h;have n:=sS o z _ _ 0 0 [] d A q (.of (by decide) (by decide)) iO;refine ⟨A==[],?_,fun h=>⟨by simpa using h,d,rfl⟩⟩;unfold eC;simp only [rQ,if_false];rw [aT p,n];rfl
  ·rename_i p;cases l with
   | nil=>cases h
   | cons c l2=>
    simp only at h;refine ⟨false,?_,fun h=>by cases h⟩;unfold eC;simp only [rQ,if_false];rw [aM p];try simp only
    split at h
    ·rename_i i;rw [aT i];cases a:nS l2 with
     | error e=>rw [a] at h;cases h
     | ok x=>
      obtain ⟨nm,u⟩:=x;rw [a] at h;simp only [bT,bP] at h;obtain ⟨rfl,rfl,rfl⟩:=h;rw [WR o a];rfl
    ·rename_i k;rw [aM k];split at h
     ·rename_i i;rw [aT i];cases a:fL first l2 with
      | error e=>rw [a] at h;cases h
      | ok x=>
       obtain ⟨⟨H,s⟩,u⟩:=x;rw [a] at h;simp only [bT,bP] at h;obtain ⟨rfl,rfl,rfl⟩:=h;rw [RJ o a];rfl
     ·rename_i m;rw [aM m];split at h
      ·rename_i i;rw [aT i];cases a:lY l2 with
       | error e=>rw [a] at h;cases h
       | ok x=>
        obtain ⟨G,u⟩:=x;rw [a] at h;simp only [bT,bP] at h;obtain ⟨rfl,rfl,rfl⟩:=h;obtain ⟨D,n⟩:=SR o a;rw [D,n]
      ·rename_i j;rw [aM j];cases a:fA ents (c::l2) with
       | error e=>rw [a] at h;cases h
       | ok x=>
        obtain ⟨nm,B,C,u⟩:=x;rw [a] at h;simp only [bT,bP] at h;obtain ⟨rfl,rfl,rfl⟩:=h;rw [OW o z a];rfl
theorem LI (o:cP) {ents:aN} (w:kE o.ents ents) (m:o.strict=true) (j:o.fails=false) (k:pU o) {first:Bool} (st:St) (u:st.ended=false) (v:st.toClose=none) (h:kB ents first st.rest=.error .bad):eC o st=.error .syn:=by
 obtain ⟨rest,s,p,A,B,next⟩:=st;simp only at u v h ⊢;subst u v;have n:∀ {α:Type} {r:Except EK α},vR o.fails r→(∀ x,r≠.ok x)→r=.error .syn:=fun {α} {r} y z=>by
  cases r with
  | ok x=>exact absurd rfl (z x)
  | error e=>
   rcases y e rfl with rfl|rfl
   ·rfl
   ·rw [j];rfl
 unfold kB at h;cases rest with
 | nil=>cases h
 | cons b l=>
  simp only at h;unfold eC;simp only [rQ,if_false];split at h
  ·rename_i t;rw [aT t];have q:dU ents ((b::l).length+1) (b::l) []=.error .bad:=by
    cases q:dU ents ((b::l).length+1) (b::l) [] with
    | error e=>rw [q] at h;simpa using h
    | ok x=>rw [q] at h;cases h
   rw [n (yH o none false _ _ (dC _) 0 0 []) (fun x=>pV o w m k _ _ 0 0 [] q (.of (by decide) (by decide)) iO x.1 x.2)]
  ·rename_i t;rw [aM t];cases l with
   | nil=>simp only;rw [j];rfl
   | cons c l2=>
    simp only at h ⊢;split at h
    ·rename_i d;rw [aT d];have a:nS l2=.error .bad:=by
      cases a:nS l2 with
      | error e=>rw [a] at h;simpa using h
      | ok x=>rw [a] at h;cases h
     rw [n (SQ o l2) (SS o a)]
    ·rename_i g;rw [aM g];split at h
     ·rename_i d;rw [aT d];have a:fL first l2=.error .bad:=by
       cases a:fL first l2 with
       | error e=>rw [a] at h;simpa using h
       | ok x=>rw [a] at h;cases h
      rw [n (WQ o l2 (DH o a default).2) (fun x=>(DH o a x).1)]
     ·rename_i i;rw [aM i];split at h
      ·rename_i d;rw [aT d];have a:lY l2=.error .bad:=by
        cases a:lY l2 with
        | error e=>rw [a] at h;simpa using h
        | ok x=>rw [a] at h;cases h
       rw [n (OU o l2) (OV o a)]
      ·rename_i f;rw [aM f];have a:fA ents (c::l2)=.error .bad:=by
        cases a:fA ents (c::l2) with
        | error e=>rw [a] at h;simpa using h
        | ok x=>rw [a] at h;cases h
       rw [n (LG o (c::l2)) (LH o w m k a)]
def gM (T:Bs) (l:List (aU×St)):List (aU×Nat):=l.map fun p=>(p.1,T.length-p.2.rest.length)
theorem OX (t:aU):1≤t.wt:=by cases t<;>simp [aU.wt]
end Go.Proofs.YthapcchcahnfaaaGreatDoor
