/- Part of the proof that laws.FnStrictIsLoose, laws.FnUnclosed, laws.FnReaderFails, laws.FnWithin, laws.FnSkip returns true for every argument. No conditions. -/
import Derived.Test.YthapcchcahnfaaaGreatDoorP02
import Derived.Test.YthapcchcahnfaaaGreatDoorP10
import Derived.Test.YthapcchcahnfaaaGreatDoorP16
set_option linter.all false
set_option maxHeartbeats 8000000
set_option maxRecDepth 100000
namespace Go.Proofs.YthapcchcahnfaaaGreatDoor
open Go
theorem zV (f:Bool):cE f≠.other:=by unfold cE;split<;>decide
theorem K1 (f:Bool):mF f≠.other:=by unfold mF;split<;>decide
abbrev tX {α:Type} (r:Except EK α):Prop:=r≠.error .other
theorem aZ {α:Type} (f:Bool):tX (.error (cE f):Except EK α):=fun h=>zV f (by simpa using h)
theorem bH {α:Type}:tX (.error .syn:Except EK α):=fun h=>by cases h
theorem bU {α:Type} (a:α):tX (.ok a:Except EK α):=fun h=>by cases h
theorem B0 (f a:Bool) (p r:Bs):tX (eA f a p r):=by
 unfold eA;split
 ·(first|exact aZ _|exact bH|exact bU _)
 ·split<;>(first|exact aZ _|exact bH|exact bU _)
theorem U4 (f:Bool) (a:Option (Bs→Option Bs)) (r:Bs):tX (hH f a r):=by
 unfold hH;split
 ·(first|exact aZ _|exact bH|exact bU _)
 ·split
  ·split
   ·(first|exact aZ _|exact bH|exact bU _)
   ·split
    ·split
     ·(first|exact aZ _|exact bH|exact bU _)
     ·exact B0 _ _ _ _
    ·exact B0 _ _ _ _
  ·split
   ·(first|exact aZ _|exact bH|exact bU _)
   ·split<;>(first|exact aZ _|exact bH|exact bU _)
theorem zW (o:cM) (q:Option UInt8) (f:Bool):∀ (n:Nat) (rest:Bs),rest.length≤n→∀ (b0 b1:UInt8) (a:Bs),tX (bE o q f rest b0 b1 a):=by
 intro n;induction n with
 | zero=>
  intro rest d b0 b1 a;have:rest=[]:=tZ (by omega);subst this;unfold bE;split
  ·(first|exact aZ _|exact bH|exact bU _)
  ·split<;>(first|exact aZ _|exact bH|exact bU _)
 | succ n ih=>
  intro rest d b0 b1 a;cases rest with
  | nil=>
   unfold bE;split
   ·(first|exact aZ _|exact bH|exact bU _)
   ·split<;>(first|exact aZ _|exact bH|exact bU _)
  | cons b t=>
   have g:t.length≤n:=by simp at d;omega
   unfold bE;split
   ·split
    ·split<;>(first|exact aZ _|exact bH|exact bU _)
    ·(first|exact aZ _|exact bH|exact bU _)
   ·split
    ·split
     ·split<;>(first|exact aZ _|exact bH|exact bU _)
     ·(first|exact aZ _|exact bH|exact bU _)
    ·split
     ·split<;>(first|exact aZ _|exact bH|exact bU _)
     ·split
      ·split
       ·rename_i e c;intro h;simp only [Except.error.injEq] at h;subst h;exact U4 _ _ _ c
       ·rename_i c;have:=gR c;exact ih _ (by omega) _ _ _
       ·rename_i c;have:=gR c;split
        ·(first|exact aZ _|exact bH|exact bU _)
        ·exact ih _ (by omega) _ _ _
      ·exact ih _ g _ _ _
theorem FJ (f:Bool) (r:Bs):tX (eE f r):=by
 unfold eE;split
 ·(first|exact aZ _|exact bH|exact bU _)
 ·split
  ·(first|exact aZ _|exact bH|exact bU _)
  ·split<;>(first|exact aZ _|exact bH|exact bU _)
theorem lQ {α β:Type} {r:Except EK α} {e:EK} (h:tX r) (b:r=.error e):tX (.error e:Except EK β):=by
 intro a;simp only [Except.error.injEq] at a;subst a;exact h b
theorem tL (f:Bool) (r:Bs):tX (cH f r):=by
 unfold cH;split
 ·rename_i a;exact lQ (FJ _ _) a
 ·split<;>(first|exact aZ _|exact bH|exact bU _)
theorem FK (o:cM) (r:Bs):tX (cS o r):=by
 unfold cS;split
 ·(first|exact aZ _|exact bH|exact bU _)
 ·split
  ·exact zW _ _ _ _ _ (dD _) _ _ _
  ·split
   ·(first|exact aZ _|exact bH|exact bU _)
   ·split<;>(first|exact aZ _|exact bH|exact bU _)
theorem QT (o:cM) (r:Bs):tX (fO o r):=by
 unfold fO;split
 ·rename_i a;exact lQ (tL _ _) a
 ·split
  ·(first|exact aZ _|exact bH|exact bU _)
  ·split
   ·split
    ·rename_i a;exact lQ (FK _ _) a
    ·(first|exact aZ _|exact bH|exact bU _)
   ·split<;>(first|exact aZ _|exact bH|exact bU _)
theorem FL {o:cM} {r b:Bs} {a:cZ} (h:fO o r=.ok (a,b)):b.length<r.length:=(oY h).2
theorem B1 (o:cM):∀ (k:Nat) (rest:Bs) (acc:List cZ),rest.length<k→tX (cQ o k rest acc)
 | 0,_,_,h=>by omega
 | k+1,rest,acc,h=>by
  unfold cQ;split
  ·(first|exact aZ _|exact bH|exact bU _)
  ·rename_i b i e;split
   ·split
    ·(first|exact aZ _|exact bH|exact bU _)
    ·split<;>(first|exact aZ _|exact bH|exact bU _)
   ·split
    ·(first|exact aZ _|exact bH|exact bU _)
    ·split
     ·rename_i c;exact lQ (QT _ _) c
     ·rename_i a f c;have g:=FL c;have d:(aT rest).length≤rest.length:=(fH rest).length_le;rw [e] at d;exact B1 o k f _ (by omega)
theorem NA (o:cM) (r:Bs):tX (eG o r):=by
 unfold eG;split
 ·rename_i a;exact lQ (tL _ _) a
 ·split
  ·rename_i a;exact lQ (B1 _ _ _ _ (Nat.lt_succ_self _)) a
  ·(first|exact aZ _|exact bH|exact bU _)
theorem U5 (o:cM) (r:Bs):tX (kQ o r):=by
 unfold kQ;split
 ·rename_i a;exact lQ (tL _ _) a
 ·split
  ·(first|exact aZ _|exact bH|exact bU _)
  ·split<;>(first|exact aZ _|exact bH|exact bU _)
theorem xE (f:Bool):∀ (r:Bs) (b0 b1:UInt8) (a:Bs),tX (bZ f r b0 b1 a)
 | [],_,_,_=>by unfold bZ;(first|exact aZ _|exact bH|exact bU _)
 | b::r,b0,b1,a=>by
  unfold bZ;split
  ·split<;>(first|exact aZ _|exact bH|exact bU _)
  ·exact xE f r _ _ _
theorem xF (f:Bool):∀ (r:Bs) (b0 b1:UInt8),tX (cJ f r b0 b1)
 | [],_,_=>by unfold cJ;(first|exact aZ _|exact bH|exact bU _)
 | b::r,b0,b1=>by
  unfold cJ;split
  ·(first|exact aZ _|exact bH|exact bU _)
  ·exact xF f r _ _
theorem Y3 (f:Bool):∀ (n:Nat),(∀ (r:Bs),r.length≤n→∀ (b c:UInt8) (d:Int) (a:Bs),tX (fT f b r c d a))∧(∀ (r:Bs),r.length≤n→∀ (c:UInt8) (d:Int) (a:Bs),tX (dW f r c d a)):=by
 intro n;induction n with
 | zero=>
  have g:∀ (r:Bs),r.length≤0→∀ (c:UInt8) (d:Int) (a:Bs),tX (dW f r c d a):=by
   intro r e c d a;have:r=[]:=tZ (by omega);subst this;unfold dW;(first|exact aZ _|exact bH|exact bU _)
  refine ⟨fun r e b c d a=>?_,g⟩;have:r=[]:=tZ (by omega);subst this;unfold fT;repeat' split
  all_goals first|(first|exact aZ _|exact bH|exact bU _)|contradiction|exact g _ (by simp) _ _ _
 | succ n ih=>
  have g:∀ (r:Bs),r.length≤n+1→∀ (c:UInt8) (d:Int) (a:Bs),tX (dW f r c d a):=by
   intro r e c d a;cases r with
   | nil=>unfold dW;(first|exact aZ _|exact bH|exact bU _)
   | cons b r=>
    unfold dW;split
    ·(first|exact aZ _|exact bH|exact bU _)
    ·exact ih.1 _ (by simp at e;omega) _ _ _ _
  refine ⟨fun r e b c d a=>?_,g⟩;unfold fT;split
  ·exact g _ e _ _ _
  ·split
   ·exact g _ e _ _ _
   ·split
    ·exact g _ e _ _ _
    ·split
     ·exact g _ e _ _ _
     ·split
      ·split
       ·(first|exact aZ _|exact bH|exact bU _)
       ·simp only [gN] at e;split
        ·split
         ·(first|exact aZ _|exact bH|exact bU _)
         ·simp only [gN] at e;split
          ·split
           ·(first|exact aZ _|exact bH|exact bU _)
           ·simp only [gN] at e;split
            ·split
             ·rename_i h;exact lQ (xF _ _ _ _) h
             ·rename_i h;have:=jB h;exact ih.2 _ (by omega) _ _ _
            ·exact ih.1 _ (by omega) _ _ _ _
          ·exact ih.1 _ (by omega) _ _ _ _
        ·exact ih.1 _ (by omega) _ _ _ _
      ·exact g _ e _ _ _
theorem B2 (f:Bool):∀ (p r:Bs),tX (dQ f p r)
 | [],_=>by unfold dQ;(first|exact aZ _|exact bH|exact bU _)
 | _::_,[]=>by unfold dQ;(first|exact aZ _|exact bH|exact bU _)
 | p::ps,b::r=>by
  unfold dQ;split
  ·exact B2 f ps r
  ·(first|exact aZ _|exact bH|exact bU _)
theorem zX (o:cM) (r:Bs):tX (gS o r):=by
 unfold gS;split
 ·(first|exact aZ _|exact bH|exact bU _)
 ·split
  ·split
   ·(first|exact aZ _|exact bH|exact bU _)
   ·split
    ·split
     ·rename_i a;exact lQ (xE _ _ _ _ _) a
     ·(first|exact aZ _|exact bH|exact bU _)
    ·(first|exact aZ _|exact bH|exact bU _)
  ·split
   ·split
    ·rename_i a;exact lQ (B2 _ _ _) a
    ·split
     ·rename_i a;exact lQ (zW _ _ _ _ _ (dD _) _ _ _) a
     ·(first|exact aZ _|exact bH|exact bU _)
   ·split
    ·rename_i a;exact lQ ((Y3 _ _).2 _ (dD _) _ _ _) a
    ·(first|exact aZ _|exact bH|exact bU _)
def Fg:Bs:=[60,97,47,62]
def mU:cM:=⟨false,true,none,[],[],false⟩
def Y4:St:={ rest:=[],ended:=false,toClose:=some ([],[97]),stk:=[{ kind:=0,space:=[],loc:=[97],ok:=false }],ns:=fun _=>none,next:=none }
def Y5:St:={ rest:=[],ended:=false,toClose:=none,stk:=[],ns:=fun _=>none,next:=none }
theorem Fh:s6 mU (St.init Fg)=.ok (.start ([],[97]) [],Y4):=by rfl
theorem Fi:s6 mU Y4=.ok (.fin ([],[97]),Y5):=by rfl
theorem Fj:s6 mU Y5=.error .eof:=by rfl
theorem U6 (fold:Bs→Bs→Bool):eD fold mU (St.init Fg) [(.start ([],[97]) [],Y4),(.fin ([],[97]),Y5)] .eof:=
 .more (by rw [sB rfl rfl];exact Fh) (.more (by rw [sB rfl rfl];exact Fi) (.stop (by rw [sB rfl rfl];exact Fj)))
theorem K4 (o:cM) {ents:aP} (n:k8 o.ents ents) {rest r:Bs} {a:cZ} (h:eQ ents rest=.ok (a,r)):fO o rest=.ok (a,r):=by
 unfold eQ at h;cases g:fZ rest with
 | error e=>rw [g] at h;cases h
 | ok x=>
  obtain ⟨nm,l⟩:=x;rw [g] at h;obtain ⟨t,_,_,_⟩:=nT (f:=o.fails) g;cases c:aT l with
  | nil=>simp only [c] at h;cases h
  | cons b r2=>
   simp only [c] at h;have i:l≠[]:=fun s=>by rw [s] at c;cases c
   unfold fO;rw [t i];simp only [c];split at h
   ·rename_i p;rw [aV p];cases d:aT r2 with
    | nil=>rw [d] at h;cases h
    | cons q r3=>
     rw [d] at h;simp only at h;split at h
     ·rename_i k;cases j:qX ents q (r3.length+1) r3 [] with
      | error e=>rw [j] at h;cases h
      | ok y=>
       obtain ⟨v,u⟩:=y;rw [j] at h;simp only [bT,bR] at h;obtain ⟨rfl,rfl⟩:=h;have m:=XU o n q k _ _ 0 0 [] v u j jD;unfold cS;simp only;rw [aV k,m]
     ·cases h
   ·cases h
theorem QU (o:cM) {ents:aP} (w:k8 o.ents ents) (d:o.strict=true) (m:qZ o) {rest r:Bs} {a:cZ} (h:eQ ents rest=.error .bad) (c:fO o rest=.ok (a,r)):r=[]:=by
 unfold eQ at h;cases j:fZ rest with
 | error e=>
  rw [j] at h;simp only [Except.error.injEq] at h;subst h;unfold fO at c;cases t:cH o.fails rest with
  | error e=>rw [t] at c;cases c
  | ok x=>exact absurd t (yY j x)
 | ok x=>
  obtain ⟨nm,u⟩:=x;rw [j] at h;obtain ⟨A,B,_,_⟩:=nT (f:=o.fails) j;unfold fO at c;by_cases g:u=[]
  ·rw [B g] at c;cases c
  ·rw [A g] at c;cases s:aT u with
   | nil=>simp only [s] at c;cases c
   | cons b r2=>
    simp only [s] at h c;split at h
    ·rename_i l;rw [aV l] at c;cases i:aT r2 with
     | nil=>rw [i] at c;simp [cS] at c
     | cons q r3=>
      rw [i] at h c;simp only at h;unfold cS at c;simp only at c;split at h
      ·rename_i k;rw [aV k] at c;cases p:qX ents q (r3.length+1) r3 [] with
       | ok y=>rw [p] at h;cases h
       | error e=>
        rw [p] at h;simp only [Except.error.injEq] at h;subst h;cases n:bE o (some q) false r3 0 0 [] with
        | error e=>rw [n] at c;cases c
        | ok z=>
         obtain ⟨v,C⟩:=z;rw [n] at c;simp only [bT,bR] at c;obtain ⟨_,rfl⟩:=c;exact PL o w d m q k _ _ 0 0 [] v C p jD n
      ·rename_i k;rw [aN k,aV d] at c;cases c
    ·rename_i l;rw [aN l,aV d] at c;cases c
theorem FM (o:cM) {ents:aP} (j:k8 o.ents ents):∀ (k:Nat) (rest:Bs) (acc d:List cZ) (em:Bool) (r:Bs),dL ents k rest acc=.ok (d,em,r)→cQ o k rest acc=.ok (d,em,r)
 | 0,_,_,_,_,_,h=>by unfold dL at h;cases h
 | k+1,rest,acc,d,em,r,h=>by
  unfold dL at h;unfold cQ;cases l:aT rest with
  | nil=>simp only [l] at h;cases h
  | cons b t=>
   simp only [l] at h ⊢;split at h
   ·rename_i m;subst m;simp only [bT,bR] at h;obtain ⟨rfl,rfl,rfl⟩:=h;rw [aN (by decide),aV rfl]
   ·rename_i g;split at h
    ·rename_i f;rw [aV f];cases t with
     | nil=>cases h
     | cons c t2=>
      simp only at h ⊢;split at h
      ·rename_i n;rw [aV n];simp only [bT,bR] at h ⊢;exact h
      ·cases h
    ·rename_i f;rw [aN f,aN g];cases i:eQ ents (b::t) with
     | error e=>rw [i] at h;cases h
     | ok x=>
      obtain ⟨a,p⟩:=x;rw [i] at h;rw [K4 o j i];simp only at h ⊢;split at h
      ·cases h
      ·split at h
       ·cases h
       ·exact FM o j k p _ d em r h
theorem B3 (o:cM) {ents:aP} (l:k8 o.ents ents) (g:o.strict=true) (f:qZ o):∀ (k:Nat) (rest:Bs) (acc:List cZ),dL ents k rest acc=.error .bad→∀ x,cQ o k rest acc≠.ok x
 | 0,_,_,h=>by unfold dL at h;cases h
 | k+1,rest,acc,h=>by
  intro x;unfold dL at h;unfold cQ;cases q:aT rest with
  | nil=>simp
  | cons b t=>
   simp only [q] at h ⊢;split at h
   ·cases h
   ·rename_i j;split at h
    ·rename_i d;rw [aV d];cases t with
     | nil=>simp
     | cons c t2=>
      simp only at h ⊢;split at h
      ·cases h
      ·rename_i n;rw [aN n];simp
    ·rename_i d;rw [aN d,aN j];cases i:eQ ents (b::t) with
     | error e=>
      rw [i] at h;simp only [Except.error.injEq] at h;subst h;cases p:fO o (b::t) with
      | error e=>simp
      | ok y=>
       obtain ⟨a,m⟩:=y;have:=QU o l g f i p;subst this;simp only;cases k with
       | zero=>unfold cQ;simp
       | succ k=>unfold cQ;simp [aT]
     | ok y=>
      obtain ⟨a,m⟩:=y;rw [i] at h;rw [K4 o l i];simp only at h ⊢;split at h
      ·cases h
      ·split at h
       ·cases h
       ·exact B3 o l g f k m _ h x
abbrev xG {α:Type} (f:Bool) (r:Except EK α):Prop:=∀ e,r=.error e→e=.syn∨e=cE f
theorem bD {α:Type} (f:Bool):xG f (.error (cE f):Except EK α):=fun e h=>aW (by simpa using h.symm)
theorem bI {α:Type} {f:Bool}:xG f (.error .syn:Except EK α):=fun e h=>aH (by simpa using h.symm)
theorem cA {α:Type} {f:Bool} (a:α):xG f (.ok a:Except EK α):=fun e h=>by cases h
theorem B4 (f a:Bool) (p r:Bs):xG f (eA f a p r):=by
 unfold eA;split
 ·(first|exact bD _|exact bI|exact cA _)
 ·split<;>(first|exact bD _|exact bI|exact cA _)
theorem U7 (f:Bool) (a:Option (Bs→Option Bs)) (r:Bs):xG f (hH f a r):=by
 unfold hH;split
 ·(first|exact bD _|exact bI|exact cA _)
 ·split
  ·split
   ·(first|exact bD _|exact bI|exact cA _)
   ·split
    ·split
     ·(first|exact bD _|exact bI|exact cA _)
     ·exact B4 _ _ _ _
    ·exact B4 _ _ _ _
  ·split
   ·(first|exact bD _|exact bI|exact cA _)
   ·split<;>(first|exact bD _|exact bI|exact cA _)
theorem zY (o:cM) (q:Option UInt8) (f:Bool):∀ (n:Nat) (rest:Bs),rest.length≤n→∀ (b0 b1:UInt8) (a:Bs),xG o.fails (bE o q f rest b0 b1 a):=by
 intro n;induction n with
 | zero=>
  intro rest d b0 b1 a;have:rest=[]:=tZ (by omega);subst this;unfold bE;split
  ·(first|exact bD _|exact bI|exact cA _)
  ·split<;>(first|exact bD _|exact bI|exact cA _)
 | succ n ih=>
  intro rest d b0 b1 a;cases rest with
  | nil=>
   unfold bE;split
   ·(first|exact bD _|exact bI|exact cA _)
   ·split<;>(first|exact bD _|exact bI|exact cA _)
  | cons b t=>
   have g:t.length≤n:=by simp at d;omega
   unfold bE;split
   ·split
    ·split<;>(first|exact bD _|exact bI|exact cA _)
    ·(first|exact bD _|exact bI|exact cA _)
   ·split
    ·split
     ·split<;>(first|exact bD _|exact bI|exact cA _)
     ·(first|exact bD _|exact bI|exact cA _)
    ·split
     ·split<;>(first|exact bD _|exact bI|exact cA _)
     ·split
      ·split
       ·rename_i e c;intro i h;simp only [Except.error.injEq] at h;subst h;exact U7 _ _ _ _ c
       ·rename_i c;have:=gR c;exact ih _ (by omega) _ _ _
       ·rename_i c;have:=gR c;split
        ·(first|exact bD _|exact bI|exact cA _)
        ·exact ih _ (by omega) _ _ _
      ·exact ih _ g _ _ _
theorem FN (f:Bool) (r:Bs):xG f (eE f r):=by
 unfold eE;split
 ·(first|exact bD _|exact bI|exact cA _)
 ·split
  ·(first|exact bD _|exact bI|exact cA _)
  ·split<;>(first|exact bD _|exact bI|exact cA _)
theorem mN {α β:Type} {f:Bool} {r:Except EK α} {e:EK} (h:xG f r) (b:r=.error e):xG f (.error e:Except EK β):=by
 intro c a;simp only [Except.error.injEq] at a;subst a;exact h _ b
theorem tM (f:Bool) (r:Bs):xG f (cH f r):=by
 unfold cH;split
 ·rename_i a;exact mN (FN _ _) a
 ·split<;>(first|exact bD _|exact bI|exact cA _)
theorem FO (o:cM) (r:Bs):xG o.fails (cS o r):=by
 unfold cS;split
 ·(first|exact bD _|exact bI|exact cA _)
 ·split
  ·exact zY _ _ _ _ _ (dD _) _ _ _
  ·split
   ·(first|exact bD _|exact bI|exact cA _)
   ·split<;>(first|exact bD _|exact bI|exact cA _)
theorem QV (o:cM) (r:Bs):xG o.fails (fO o r):=by
 unfold fO;split
 ·rename_i a;exact mN (tM _ _) a
 ·split
  ·(first|exact bD _|exact bI|exact cA _)
  ·split
   ·split
    ·rename_i a;exact mN (FO _ _) a
    ·(first|exact bD _|exact bI|exact cA _)
   ·split<;>(first|exact bD _|exact bI|exact cA _)
theorem B5 (o:cM):∀ (k:Nat) (rest:Bs) (acc:List cZ),rest.length<k→xG o.fails (cQ o k rest acc)
 | 0,_,_,h=>by omega
 | k+1,rest,acc,h=>by
  unfold cQ;split
  ·(first|exact bD _|exact bI|exact cA _)
  ·rename_i b i e;split
   ·split
    ·(first|exact bD _|exact bI|exact cA _)
    ·split<;>(first|exact bD _|exact bI|exact cA _)
   ·split
    ·(first|exact bD _|exact bI|exact cA _)
    ·split
     ·rename_i c;exact mN (QV _ _) c
     ·rename_i a f c;have g:=FL c;have d:(aT rest).length≤rest.length:=(fH rest).length_le;rw [e] at d;exact B5 o k f _ (by omega)
theorem NB (o:cM) (r:Bs):xG o.fails (eG o r):=by
 unfold eG;split
 ·rename_i a;exact mN (tM _ _) a
 ·split
  ·rename_i a;exact mN (B5 _ _ _ _ (Nat.lt_succ_self _)) a
  ·(first|exact bD _|exact bI|exact cA _)
theorem U8 (o:cM) (r:Bs):xG o.fails (kQ o r):=by
 unfold kQ;split
 ·rename_i a;exact mN (tM _ _) a
 ·split
  ·(first|exact bD _|exact bI|exact cA _)
  ·split<;>(first|exact bD _|exact bI|exact cA _)
theorem xH (f:Bool):∀ (r:Bs) (b0 b1:UInt8) (a:Bs),xG f (bZ f r b0 b1 a)
 | [],_,_,_=>by unfold bZ;(first|exact bD _|exact bI|exact cA _)
 | b::r,b0,b1,a=>by
  unfold bZ;split
  ·split<;>(first|exact bD _|exact bI|exact cA _)
  ·exact xH f r _ _ _
theorem xI (f:Bool):∀ (r:Bs) (b0 b1:UInt8),xG f (cJ f r b0 b1)
 | [],_,_=>by unfold cJ;(first|exact bD _|exact bI|exact cA _)
 | b::r,b0,b1=>by
  unfold cJ;split
  ·(first|exact bD _|exact bI|exact cA _)
  ·exact xI f r _ _
theorem Y6 (f:Bool):∀ (n:Nat),(∀ (r:Bs),r.length≤n→∀ (b c:UInt8) (d:Int) (a:Bs),xG f (fT f b r c d a))∧(∀ (r:Bs),r.length≤n→∀ (c:UInt8) (d:Int) (a:Bs),xG f (dW f r c d a)):=by
 intro n;induction n with
 | zero=>
  have g:∀ (r:Bs),r.length≤0→∀ (c:UInt8) (d:Int) (a:Bs),xG f (dW f r c d a):=by
   intro r e c d a;have:r=[]:=tZ (by omega);subst this;unfold dW;(first|exact bD _|exact bI|exact cA _)
  refine ⟨fun r e b c d a=>?_,g⟩;have:r=[]:=tZ (by omega);subst this;unfold fT;repeat' split
  all_goals first|(first|exact bD _|exact bI|exact cA _)|contradiction|exact g _ (by simp) _ _ _
 | succ n ih=>
  have g:∀ (r:Bs),r.length≤n+1→∀ (c:UInt8) (d:Int) (a:Bs),xG f (dW f r c d a):=by
   intro r e c d a;cases r with
   | nil=>unfold dW;(first|exact bD _|exact bI|exact cA _)
   | cons b r=>
    unfold dW;split
    ·(first|exact bD _|exact bI|exact cA _)
    ·exact ih.1 _ (by simp at e;omega) _ _ _ _
  refine ⟨fun r e b c d a=>?_,g⟩;unfold fT;split
  ·exact g _ e _ _ _
  ·split
   ·exact g _ e _ _ _
   ·split
    ·exact g _ e _ _ _
    ·split
     ·exact g _ e _ _ _
     ·split
      ·split
       ·(first|exact bD _|exact bI|exact cA _)
       ·simp only [gN] at e;split
        ·split
         ·(first|exact bD _|exact bI|exact cA _)
         ·simp only [gN] at e;split
          ·split
           ·(first|exact bD _|exact bI|exact cA _)
           ·simp only [gN] at e;split
            ·split
             ·rename_i h;exact mN (xI _ _ _ _) h
             ·rename_i h;have:=jB h;exact ih.2 _ (by omega) _ _ _
            ·exact ih.1 _ (by omega) _ _ _ _
          ·exact ih.1 _ (by omega) _ _ _ _
        ·exact ih.1 _ (by omega) _ _ _ _
      ·exact g _ e _ _ _
theorem B6 (f:Bool):∀ (p r:Bs),xG f (dQ f p r)
 | [],_=>by unfold dQ;(first|exact bD _|exact bI|exact cA _)
 | _::_,[]=>by unfold dQ;(first|exact bD _|exact bI|exact cA _)
 | p::ps,b::r=>by
  unfold dQ;split
  ·exact B6 f ps r
  ·(first|exact bD _|exact bI|exact cA _)
theorem QW (o:cM) (r:Bs):xG o.fails (gS o r):=by
 unfold gS;split
 ·(first|exact bD _|exact bI|exact cA _)
 ·split
  ·split
   ·(first|exact bD _|exact bI|exact cA _)
   ·split
    ·split
     ·rename_i a;exact mN (xH _ _ _ _ _) a
     ·(first|exact bD _|exact bI|exact cA _)
    ·(first|exact bD _|exact bI|exact cA _)
  ·split
   ·split
    ·rename_i a;exact mN (B6 _ _ _) a
    ·split
     ·rename_i a;exact mN (zY _ _ _ _ _ (dD _) _ _ _) a
     ·(first|exact bD _|exact bI|exact cA _)
   ·split
    ·rename_i a;exact mN ((Y6 _ _).2 _ (dD _) _ _ _) a
    ·(first|exact bD _|exact bI|exact cA _)
theorem FP (f:Bool):∀ (r:Bs) (b0:UInt8) (a:Bs),xG f (gH f r b0 a)
 | [],_,_=>by unfold gH;(first|exact bD _|exact bI|exact cA _)
 | b::r,b0,a=>by
  unfold gH;split
  ·(first|exact bD _|exact bI|exact cA _)
  ·exact FP f r _ _
theorem Y7 (o:cM) (r:Bs) (h:vL o r≠.error .other):xG o.fails (vL o r):=by
 intro e a;unfold vL at a h;cases b:eE o.fails r with
 | error e'=>
  rw [b] at a;simp only [Except.error.injEq] at a;subst a;exact FN _ _ _ b
 | ok x=>
  obtain ⟨i,f⟩:=x;rw [b] at a h;simp only at a h;cases c:gH o.fails (aT f) 0 [] with
  | error e'=>
   rw [c] at a;simp only [Except.error.injEq] at a;subst a;exact FP _ _ _ _ _ c
  | ok y=>
   obtain ⟨s,g⟩:=y;rw [c] at a h;simp only at a h;split at a
   ·rename_i d;rw [aV d] at h;exact absurd rfl h
   ·cases a
theorem zZ (f:Bool):∀ (p r:Bs),dQ f p (p++r)=.ok r
 | [],r=>by simp [dQ]
 | c::p,r=>by rw [jJ,dQ,aV rfl];exact zZ f p r
theorem FQ {f:Bool}:∀ {p l r:Bs},dQ f p l=.ok r→l=p++r
 | [],l,r,h=>by unfold dQ at h;simpa using h
 | c::p,[],r,h=>by unfold dQ at h;cases h
 | c::p,b::l,r,h=>by
  unfold dQ at h;split at h
  ·rename_i a;subst a;rw [FQ h];rfl
  ·cases h
def JA (t:aO) (em:Bool):Option (Bs×Bs):=
 match t with
 | .start nm _=>if em then some nm else none
 | _=>none
theorem U9 (o:cM) {r g:Bs} {t:aO} (h:mQ r=.ok (t,g)):gS o r=.ok (t,g)∧∀ em,JA t em=none:=by
 unfold mQ at h;split at h
 ·rename_i b;obtain ⟨y,rfl⟩:=List.isPrefixOf_iff_prefix.1 b;rw [show (([45,45]:Bs)++y).drop 2=y from rfl] at h;cases a:dR y with
  | error e=>rw [a] at h;cases h
  | ok x=>
   obtain ⟨d,f⟩:=x;rw [a] at h;simp only [bT,bR] at h;obtain ⟨rfl,rfl⟩:=h;refine ⟨?_,fun _=>rfl⟩;unfold gS;simp only [jJ,List.nil_append,if_true];rw [II a]
 ·split at h
  ·rename_i b;obtain ⟨y,rfl⟩:=List.isPrefixOf_iff_prefix.1 b;rw [show (C4++y).drop 7=y from rfl] at h;cases a:fB ((C4++y).length+1) y [] with
   | error e=>rw [a] at h;cases h
   | ok x=>
    obtain ⟨d,f⟩:=x;rw [a] at h;simp only [bT,bR] at h;obtain ⟨rfl,rfl⟩:=h;refine ⟨?_,fun _=>rfl⟩;have c:=uC o _ y 0 0 [] d f a (.of (by decide) (by decide)) jD;have i:=zZ o.fails [67,68,65,84,65,91] y;unfold gS;rw [show C4++y=91::([67,68,65,84,65,91]++y) from rfl];simp only;rw [aN (by decide)];simp only [if_true];rw [i];simp only;rw [c]
  ·split at h
   ·rename_i b;obtain ⟨y,rfl⟩:=List.isPrefixOf_iff_prefix.1 b;rw [show (sV++y).drop 7=y from rfl] at h;cases a:pR y with
    | error e=>rw [a] at h;cases h
    | ok x=>
     obtain ⟨d,f⟩:=x;rw [a] at h;simp only [bT,bR] at h;obtain ⟨rfl,rfl⟩:=h;refine ⟨?_,fun _=>rfl⟩;have c:=YI o a;unfold gS;rw [show sV++y=68::([79,67,84,89,80,69]++y) from rfl];simp only;rw [aN (by decide),aN (by decide),c]
   ·split at h
    ·cases h
    ·split at h<;>cases h
theorem QX (o:cM) {r:Bs} (h:mQ r=.error .bad) (x:aO×Bs):gS o r≠.ok x:=by
 unfold mQ at h;split at h
 ·rename_i g;obtain ⟨y,rfl⟩:=List.isPrefixOf_iff_prefix.1 g;rw [show (([45,45]:Bs)++y).drop 2=y from rfl] at h;have a:dR y=.error .bad:=by
   cases a:dR y with
   | error e=>rw [a] at h;simpa using h
   | ok z=>rw [a] at h;cases h
  unfold gS;simp only [jJ,List.nil_append,if_true];cases j:bZ o.fails y 0 0 [] with
  | error e=>simp
  | ok z=>exact absurd j (EX a z.1 z.2)
 ·rename_i k;split at h
  ·rename_i g;obtain ⟨y,rfl⟩:=List.isPrefixOf_iff_prefix.1 g;rw [show (C4++y).drop 7=y from rfl] at h;have a:fB ((C4++y).length+1) y []=.error .bad:=by
    cases a:fB ((C4++y).length+1) y [] with
    | error e=>rw [a] at h;simpa using h
    | ok z=>rw [a] at h;cases h
   have l:=zZ o.fails [67,68,65,84,65,91] y;unfold gS;rw [show C4++y=91::([67,68,65,84,65,91]++y) from rfl];simp only;rw [aN (by decide)];simp only [if_true];rw [l];simp only;cases j:bE o none true y 0 0 [] with
   | error e=>simp
   | ok z=>exact absurd j (q9 o _ y 0 0 [] a (.of (by decide) (by decide)) jD z.1 z.2)
  ·rename_i f;split at h
   ·rename_i g;exfalso;generalize r.drop 7=y at h;cases a:pR y with
    | ok z=>rw [a] at h;cases h
    | error e=>
     rw [a] at h;simp only [Except.error.injEq] at h;subst h;unfold pR at a;split at a
     ·cases a
     ·split at a
      ·cases a
      ·split at a<;>cases a
   ·cases r with
    | nil=>unfold gS;simp
    | cons b t=>
     simp only at h;split at h
     ·rename_i m;unfold gS;simp only;by_cases d:b=45
      ·subst d;rw [aV rfl];cases t with
       | nil=>simp
       | cons c t2=>
        simp only;by_cases a:c=45
        ·subst a;exact absurd (show ([45,45]:Bs).isPrefixOf (45::45::t2)=true by simp [List.isPrefixOf]) k
        ·rw [aN a];simp
      ·have i:b=91:=m.resolve_left d;subst i;rw [aN d,aV rfl];cases n:dQ o.fails [67,68,65,84,65,91] t with
       | error e=>simp
       | ok z=>
        rw [FQ n] at f;exact absurd (by rw [List.isPrefixOf_iff_prefix];exact ⟨z,rfl⟩) f
     ·cases h
theorem Y8 (o:cM) {r i:Bs} {nm:Bs×Bs} (h:oO r=.ok (nm,i)):kQ o r=.ok (.fin nm,i):=by
 unfold oO at h;cases c:fZ r with
 | error e=>rw [c] at h;cases h
 | ok x=>
  obtain ⟨m,g⟩:=x;rw [c] at h;obtain ⟨l,_,_,_⟩:=nT (f:=o.fails) c;cases a:aT g with
  | nil=>simp only [a] at h;cases h
  | cons b t=>
   simp only [a] at h;have d:g≠[]:=fun k=>by rw [k] at a;cases a
   unfold kQ;rw [l d];simp only [a];split at h
   ·rename_i j;simp only [bT,bR] at h;obtain ⟨rfl,rfl⟩:=h;rw [aV j]
   ·cases h
theorem VA (o:cM) {r:Bs} (h:oO r=.error .bad) (x:aO×Bs):kQ o r≠.ok x:=by
 unfold oO at h;unfold kQ;cases c:fZ r with
 | error e=>
  rw [c] at h;simp only [Except.error.injEq] at h;subst h;cases j:cH o.fails r with
  | error e=>simp
  | ok z=>exact absurd j (yY c z)
 | ok y=>
  obtain ⟨m,g⟩:=y;rw [c] at h;obtain ⟨k,l,_,_⟩:=nT (f:=o.fails) c;by_cases a:g=[]
  ·rw [l a];simp
  ·rw [k a];cases d:aT g with
   | nil=>simp only [d];simp
   | cons b t=>
    simp only [d] at h ⊢;split at h
    ·cases h
    ·rename_i i;rw [aN i];simp
theorem QY (o:cM) {ents:aP} (l:k8 o.ents ents) {r j:Bs} {nm:Bs×Bs} {a:List cZ} {em:Bool} (h:fM ents r=.ok (nm,a,em,j)):eG o r=.ok ((nm,a),em,j):=by
 unfold fM at h;cases c:fZ r with
 | error e=>rw [c] at h;cases h
 | ok x=>
  obtain ⟨p,g⟩:=x;rw [c] at h;simp only at h;obtain ⟨n,_,_,_⟩:=nT (f:=o.fails) c;cases b:dL ents (g.length+1) g [] with
  | error e=>rw [b] at h;cases h
  | ok y=>
   obtain ⟨i,k,q⟩:=y;rw [b] at h;simp only [bT,bR] at h;obtain ⟨rfl,rfl,rfl,rfl⟩:=h;have d:g≠[]:=fun m=>by rw [m] at b;simp [dL,aT] at b
   unfold eG;rw [n d];simp only;rw [FM o l _ _ _ _ _ _ b]
theorem NC (o:cM) {ents:aP} (j:k8 o.ents ents) (i:o.strict=true) (g:qZ o) {r:Bs} (h:fM ents r=.error .bad) (x:((Bs×Bs)×List cZ)×Bool×Bs):eG o r≠.ok x:=by
 unfold fM at h;unfold eG;cases c:fZ r with
 | error e=>
  rw [c] at h;simp only [Except.error.injEq] at h;subst h;cases l:cH o.fails r with
  | error e=>simp
  | ok z=>exact absurd l (yY c z)
 | ok y=>
  obtain ⟨p,b⟩:=y;rw [c] at h;simp only at h;obtain ⟨m,n,_,_⟩:=nT (f:=o.fails) c;by_cases a:b=[]
  ·rw [n a];simp
  ·rw [m a];simp only;cases d:dL ents (b.length+1) b [] with
   | ok y=>rw [d] at h;cases h
   | error e=>
    rw [d] at h;simp only [Except.error.injEq] at h;subst h;cases k:cQ o (b.length+1) b [] with
    | error e=>simp
    | ok z=>exact absurd k (B3 o j i g _ _ _ d z)
theorem FR (o:cM) {ents:aP} (z:k8 o.ents ents) {first em:Bool} {t:aO} {r:Bs} (st:St) (w:st.ended=false) (y:st.toClose=none) (h:kX ents first st.rest=.ok (t,em,r)) :
  ∃ v,dN o st=.ok (t,{ st with rest:=r,toClose:=JA t em,ended:=v })∧(v=true→r=[]∧∃ d,t=.text d):=by
 obtain ⟨rest,g,f,E,F,next⟩:=st;simp only at w y h ⊢;subst w y;unfold kX at h;cases rest with
 | nil=>cases h
 | cons b l=>
  simp only at h;split at h
  ·rename_i p;cases q:eC ents ((b::l).length+1) (b::l) [] with
   | error e=>rw [q] at h;cases h
   | ok x=>
    obtain ⟨d,A⟩:=x;rw [q] at h;simp only [bT,bR] at h;obtain ⟨rfl,rfl,rfl⟩:=h;have n:=uB o z _ _ 0 0 [] d A q (.of (by decide) (by decide)) jD;refine ⟨A==[],?_,fun h=>⟨by simpa using h,d,rfl⟩⟩;unfold dN;simp only [sS,if_false];rw [aV p,n];rfl
  ·rename_i p;cases l with
   | nil=>cases h
   | cons c l2=>
    simp only at h;refine ⟨false,?_,fun h=>by cases h⟩;unfold dN;simp only [sS,if_false];rw [aN p];try simp only
    split at h
    ·rename_i i;rw [aV i];cases a:oO l2 with
     | error e=>rw [a] at h;cases h
     | ok x=>
      obtain ⟨nm,u⟩:=x;rw [a] at h;simp only [bT,bR] at h;obtain ⟨rfl,rfl,rfl⟩:=h;rw [Y8 o a];rfl
    ·rename_i k;rw [aN k];split at h
     ·rename_i i;rw [aV i];cases a:fV first l2 with
      | error e=>rw [a] at h;cases h
      | ok x=>
       obtain ⟨⟨H,s⟩,u⟩:=x;rw [a] at h;simp only [bT,bR] at h;obtain ⟨rfl,rfl,rfl⟩:=h;rw [T4 o a];rfl
     ·rename_i m;rw [aN m];split at h
      ·rename_i i;rw [aV i];cases a:mQ l2 with
       | error e=>rw [a] at h;cases h
       | ok x=>
        obtain ⟨G,u⟩:=x;rw [a] at h;simp only [bT,bR] at h;obtain ⟨rfl,rfl,rfl⟩:=h;obtain ⟨D,n⟩:=U9 o a;rw [D,n]
      ·rename_i j;rw [aN j];cases a:fM ents (c::l2) with
       | error e=>rw [a] at h;cases h
       | ok x=>
        obtain ⟨nm,B,C,u⟩:=x;rw [a] at h;simp only [bT,bR] at h;obtain ⟨rfl,rfl,rfl⟩:=h;rw [QY o z a];rfl
theorem ND (o:cM) {ents:aP} (w:k8 o.ents ents) (m:o.strict=true) (j:o.fails=false) (k:qZ o) {first:Bool} (st:St) (u:st.ended=false) (v:st.toClose=none) (h:kX ents first st.rest=.error .bad):dN o st=.error .syn:=by
 obtain ⟨rest,s,p,A,B,next⟩:=st;simp only at u v h ⊢;subst u v;have n:∀ {α:Type} {r:Except EK α},xG o.fails r→(∀ x,r≠.ok x)→r=.error .syn:=fun {α} {r} y z=>by
  cases r with
  | ok x=>exact absurd rfl (z x)
  | error e=>
   rcases y e rfl with rfl|rfl
   ·rfl
   ·rw [j];rfl
 unfold kX at h;cases rest with
 | nil=>cases h
 | cons b l=>
  simp only at h;unfold dN;simp only [sS,if_false];split at h
  ·rename_i t;rw [aV t];have q:eC ents ((b::l).length+1) (b::l) []=.error .bad:=by
    cases q:eC ents ((b::l).length+1) (b::l) [] with
    | error e=>rw [q] at h;simpa using h
    | ok x=>rw [q] at h;cases h
   rw [n (zY o none false _ _ (dD _) 0 0 []) (fun x=>q8 o w m k _ _ 0 0 [] q (.of (by decide) (by decide)) jD x.1 x.2)]
  ·rename_i t;rw [aN t];cases l with
   | nil=>simp only;rw [j];rfl
   | cons c l2=>
    simp only at h ⊢;split at h
    ·rename_i d;rw [aV d];have a:oO l2=.error .bad:=by
      cases a:oO l2 with
      | error e=>rw [a] at h;simpa using h
      | ok x=>rw [a] at h;cases h
     rw [n (U8 o l2) (VA o a)]
    ·rename_i g;rw [aN g];split at h
     ·rename_i d;rw [aV d];have a:fV first l2=.error .bad:=by
       cases a:fV first l2 with
       | error e=>rw [a] at h;simpa using h
       | ok x=>rw [a] at h;cases h
      rw [n (Y7 o l2 (EY o a default).2) (fun x=>(EY o a x).1)]
     ·rename_i i;rw [aN i];split at h
      ·rename_i d;rw [aV d];have a:mQ l2=.error .bad:=by
        cases a:mQ l2 with
        | error e=>rw [a] at h;simpa using h
        | ok x=>rw [a] at h;cases h
       rw [n (QW o l2) (QX o a)]
      ·rename_i f;rw [aN f];have a:fM ents (c::l2)=.error .bad:=by
        cases a:fM ents (c::l2) with
        | error e=>rw [a] at h;simpa using h
        | ok x=>rw [a] at h;cases h
       rw [n (NB o (c::l2)) (NC o w m k a)]
def bV (T:Bs) (l:List (aO×St)):List (aO×Nat):=l.map fun p=>(p.1,T.length-p.2.rest.length)
theorem QZ (t:aO):1≤t.wt:=by cases t<;>simp [aO.wt]
structure z7 (ats:List cZ):Prop where
 nd:(ats.map fun a=>(a.1,a.2.1)).Nodup
 nc:∀ a∈ats,(58:UInt8)∉a.1∧(58:UInt8)∉a.2.1∧a.2.1≠[]
theorem z8 {rest r:Bs} {nm:Bs×Bs} (h:fZ rest=.ok (nm,r)):(58:UInt8)∉nm.1∧(58:UInt8)∉nm.2∧nm.2≠[]:=by
 have c:=(nT (f:=false) h).2.2.1;unfold fZ at h;split at h
 ·cases h
 ·split at h
  ·cases h
  ·split at h
   ·cases h
   ·rename_i p l e;split at h
    ·cases h
    ·rename_i a;simp only [not_or] at a;simp only [bT,bR] at h;obtain ⟨rfl,rfl⟩:=h;refine ⟨?_,(mW (by simpa using a.1)).2,c⟩;by_cases b:p=[]
     ·subst b;simp
     ·have:eU p=true:=by
       cases d:eU p with
       | true=>rfl
       | false=>exact absurd ⟨b,d⟩ a.2
      exact (mW this).2
theorem Q0 {ents:aP} {rest r:Bs} {a:cZ} (h:eQ ents rest=.ok (a,r)):(58:UInt8)∉a.1∧(58:UInt8)∉a.2.1∧a.2.1≠[]:=by
 unfold eQ at h;cases b:fZ rest with
 | error e=>rw [b] at h;cases h
 | ok x=>
  obtain ⟨nm,d⟩:=x;rw [b] at h;have c:=z8 b;simp only at h;repeat' split at h
  all_goals first
   | (simp only [bT,bR] at h;obtain ⟨rfl,_⟩:=h;exact c)
   | cases h
theorem B7 {ents:aP}:∀ (k:Nat) (rest:Bs) (acc b:List cZ) (em:Bool) (r:Bs),z7 acc→dL ents k rest acc=.ok (b,em,r)→z7 b
 | 0,_,_,_,_,_,_,h=>by unfold dL at h;cases h
 | k+1,rest,acc,b,em,r,f,h=>by
  unfold dL at h;split at h
  ·cases h
  ·split at h
   ·simp only [bT,bR] at h;obtain ⟨rfl,_⟩:=h;exact f
   ·split at h
    ·split at h
     ·cases h
     ·split at h
      ·simp only [bT,bR] at h;obtain ⟨rfl,_⟩:=h;exact f
      ·cases h
    ·split at h
     ·cases h
     ·rename_i a m g;split at h
      ·cases h
      ·split at h
       ·cases h
       ·rename_i e;refine B7 k m _ b em r ⟨?_,fun x c=>?_⟩ h
        ·rw [List.map_append,List.nodup_append];refine ⟨f.nd,by simp,fun x c y j i=>?_⟩;simp only [List.map_cons,List.map_nil,List.mem_singleton] at j;subst i;subst j;obtain ⟨z,l,d⟩:=List.mem_map.1 c;refine e (List.any_eq_true.2 ⟨z,l,?_⟩);simp only [bR] at d;rw [d.1,d.2];simp
        ·rw [List.mem_append] at c;rcases c with c|c
         ·exact f.nc x c
         ·simp only [List.mem_singleton] at c;subst c;exact Q0 g
def pE (a:cZ):Option Bs:=if a.1=bF then some a.2.1 else if a.1=[]∧a.2.1=bF then some [] else none
theorem AA {a:cZ} {c:List cZ} {l:aP} (h:eT (a::c)=.ok l):(pE a=none∧eT c=.ok l)∨∃ k y,pE a=some k∧eT c=.ok y∧l=(k,a.2.2)::y:=by
 obtain ⟨d,b,v⟩:=a;rw [eT] at h;by_cases f:d≠bF∧(d≠[]∨b≠bF)
 ·rw [aV f] at h;refine aH ⟨?_,h⟩;unfold pE;rw [aN f.1,aN (fun i=>f.2.elim (fun h=>h i.1) (fun h=>h i.2))]
 ·rw [aN f] at h;have n:pE (d,b,v)=some (if d=bF then b else []):=by
   unfold pE;by_cases g:d=bF
   ·rw [aV g,aV g]
   ·have p:d=[]∧b=bF:=by
     refine Classical.byContradiction fun i=>f ⟨g,?_⟩;by_cases j:d=[]
     ·exact aW (fun q=>i ⟨j,q⟩)
     ·exact aH j
    rw [aN g,aN g,aV p]
  generalize (if d=bF then b else [])=k at h n;by_cases m:k=nA∨k=bF∨(k≠[]∧v=[])∨v=eB∨v=o6
  ·rw [aV m] at h;cases h
  ·rw [aN m] at h;cases o:eT c with
   | error e=>rw [o] at h;cases h
   | ok y=>
    rw [o] at h;simp only [bT] at h;exact aW ⟨k,y,n,rfl,h.symm⟩
theorem qC:∀ {c:List cZ} {l:aP},eT c=.ok l→∀ x∈l,∃ a∈c,pE a=some x.1
 | [],l,h,x,d=>by unfold eT at h;simp only [bT] at h;subst h;cases d
 | a::c,l,h,x,d=>by
  rcases AA h with ⟨_,e⟩|⟨k,y,e,i,rfl⟩
  ·obtain ⟨b,f,g⟩:=qC e x d;exact ⟨b,by simp [f],g⟩
  ·simp only [mH] at d;rcases d with rfl|d
   ·exact ⟨a,by simp,e⟩
   ·obtain ⟨b,f,g⟩:=qC i x d;exact ⟨b,by simp [f],g⟩
theorem NE {a b:cZ} {k:Bs} (d:pE a=some k) (c:pE b=some k) (g:a.2.1≠[]) (h:b.2.1≠[]):a.1=b.1∧a.2.1=b.2.1:=by
 unfold pE at d c;split at d
 ·rename_i e;simp only [kD] at d;split at c
  ·rename_i f;simp only [kD] at c;exact ⟨e.trans f.symm,d.trans c.symm⟩
  ·split at c
   ·simp only [kD] at c;exact absurd (d.trans c.symm) g
   ·cases c
 ·split at d
  ·rename_i e;simp only [kD] at d;split at c
   ·simp only [kD] at c;exact absurd (c.trans d.symm) h
   ·split at c
    ·rename_i f;exact ⟨e.1.trans f.1.symm,e.2.trans f.2.symm⟩
    ·cases c
  ·cases d
theorem AB {l:aP} {k:Bs} (h:∀ x∈l,x.1≠k):eS l k=none:=by
 unfold eS;rw [List.find?_eq_none.2 (fun x a=>by simpa using h x a)];rfl
theorem JB (k v:Bs) (l:aP) (p:Bs):eS ((k,v)::l) p=if k=p then some v else eS l p:=by
 unfold eS;rw [List.find?_cons];by_cases h:k=p
 ·subst h;simp
 ·rw [show ((k,v).1==p)=false from lV.2 h,aN h]
theorem FS (a:cZ) (b:List cZ) (j:List gT) (g:Bs→Option Bs):∃ d,dK (a::b) j g=dK b d (match pE a with|some k=>iA g k (some a.2.2)|none=>g):=by
 obtain ⟨i,c,v⟩:=a;rw [dK];unfold pE;by_cases e:i=bF
 ·have f:¬ (i=[]∧c=bF):=by rintro ⟨h,_⟩;rw [e] at h;cases h
  simp only [aV e,aN f];exact ⟨_,rfl⟩
 ·by_cases f:i=[]∧c=bF
  ·simp only [aN e,aV f];exact ⟨_,rfl⟩
  ·simp only [aN e,aN f];exact ⟨_,rfl⟩
theorem DQ:∀ (c:List cZ) (l:aP) (d:List gT) (f:Bs→Option Bs),eT c=.ok l→z7 c→∀ p,(dK c d f).2 p=match eS l p with|some v=>some v|none=>f p
 | [],l,d,f,h,_,p=>by unfold eT at h;simp only [bT] at h;subst h;rfl
 | a::c,l,d,f,h,n,p=>by
  have e:z7 c:=⟨by have:=n.nd;rw [List.map_cons,List.nodup_cons] at this;exact this.2,fun b h=>n.nc b (by simp [h])⟩;have g:∀ b∈c,¬ (b.1=a.1∧b.2.1=a.2.1):=fun b z o=>by
   have:=n.nd;rw [List.map_cons,List.nodup_cons] at this;exact this.1 (List.mem_map.2 ⟨b,z,by rw [o.1,o.2]⟩)
  obtain ⟨i,u⟩:=FS a c d f;rw [u];rcases AA h with ⟨j,m⟩|⟨k,y,j,m,rfl⟩
  ·rw [j];exact DQ c l i f m e p
  ·rw [j,DQ c y _ _ m e p,JB];by_cases q:k=p
   ·subst q;have:eS y k=none:=AB fun x A r=>by
     obtain ⟨b,s,t⟩:=qC m x A;rw [r] at t;exact g b s (NE t j (e.nc b s).2.2 (n.nc a (by simp)).2.2)
    rw [this,aV rfl];simp [iA]
   ·rw [aN q];cases eS y p with
    | some w=>rfl
    | none=>simp only [iA];rw [aN (fun o=>q o.symm)]
theorem FT {b:Bs} {bound:List aP}:∀ {l acc x:List cZ},gO b bound acc l=.ok x→x=acc++l.map fun a=>(cL b bound a.1 false,a.2.1,a.2.2)
 | [],acc,x,h=>by unfold gO at h;simp only [bT] at h;subst h;simp
 | (sp,loc,v)::l,acc,x,h=>by
  unfold gO at h;split at h
  ·cases h
  ·rw [FT h];simp
inductive gW:List Bs→List aP→List gT→(Bs→Option Bs)→Prop
 | nil:gW [] [] [] (fun _=>none)
 | cons {os bs stk ns} (nm:Bs×Bs) (l:aP) (a:List gT) (b:Bs→Option Bs):gW os bs stk ns→fA a b=(stk,ns)→(∀ p,b p=match eS l p with|some v=>some v|none=>ns p)→(58:UInt8)∉nm.1→nm≠([],bF)→(∀ x∈l,(58:UInt8)∉x.1) →
   gW (dV nm::os) (l::bs) ({ kind:=0,space:=nm.1,loc:=nm.2,ok:=false }::a) b
theorem gW.ns {os:List Bs} {b:List aP} {a:List gT} {c:Bs→Option Bs} (h:gW os b a c):∀ p,c p=jK b p:=by
 induction h with
 | nil=>intro p;rfl
 | cons nm l stk' ns' _ _ d _ _ _ ih=>
  intro p;rw [d,jK];cases eS l p with
  | some v=>rfl
  | none=>exact ih p
theorem gW.url {os:List Bs} {d:List aP} {a:List gT} {c:Bs→Option Bs} (h:gW os d a c):∀ p,(58:UInt8)∈p→c p=none:=by
 induction h with
 | nil=>intro p _;rfl
 | cons nm l stk' ns' _ _ e _ _ f ih=>
  intro p b;rw [e,AB fun x i g=>f x i (g▸b)];exact ih p b
theorem gW.top {os:List Bs} {c:List aP} {a:List gT} {b:Bs→Option Bs} (h:gW os c a b):fA a b=(a,b):=by
 cases h with
 | nil=>rfl
 | cons=>unfold fA;simp
theorem gW.empty {os:List Bs} {b:List aP} {a:List gT} {c:Bs→Option Bs} (h:gW os b a c):os=[]↔a=[]:=by
 cases h with
 | nil=>simp
 | cons=>simp
theorem FU:∀ {a b:Bs×Bs},(58:UInt8)∉a.1→(58:UInt8)∉b.1→dV a=dV b→a=b
 | ⟨[],y⟩,⟨[],y'⟩,_,_,h=>by simpa [dV] using h
 | ⟨[],y⟩,⟨d::x',y'⟩,_,f,h=>by
  simp only [dV,List.nil_append,jJ,List.cons.injEq] at h;exact absurd (by simp [h.1]) f
 | ⟨c::x,y⟩,⟨[],y'⟩,e,_,h=>by
  simp only [dV,List.nil_append,jJ,List.cons.injEq] at h;exact absurd (by simp [h.1]) e
 | ⟨c::x,y⟩,⟨d::x',y'⟩,e,f,h=>by
  simp only [dV,jJ,List.cons.injEq] at h;obtain ⟨rfl,h⟩:=h;have:=@FU (x,y) (x',y') (fun g=>e (by simp [g])) (fun g=>f (by simp [g])) h;simp only [bR] at this ⊢;exact ⟨by rw [this.1],this.2⟩
theorem AC (o:cM) {os:List Bs} {e:List aP} {g:List gT} {i:Bs→Option Bs} (h:gW os e g i) (nm:Bs×Bs) (a:Bool) (k:a=true→nm≠([],bF)):cX o i nm a=(cL o.space e nm.1 a,nm.2):=by
 unfold cX cL;by_cases d:nm.1=bF
 ·rw [aV d,aV (aW d)]
 ·rw [aN d];by_cases c:nm.1=[]∧a=false
  ·rw [aV c,aV (aH c)]
  ·rw [aN c,aN (show ¬ ((nm.1=[]∧a=false)∨nm.1=bF) from fun b=>b.elim c d)];by_cases f:nm.1=nA
   ·rw [aN (show ¬ (nm.1≠nA∧nm.1=[]∧nm.2=bF) from fun b=>b.1 f)];simp only [aV f];rw [h.url eB (by decide),aN (by decide)]
   ·have j:¬ (nm.1≠nA∧nm.1=[]∧nm.2=bF):=fun b=>by
     cases a with
     | true=>exact k rfl (Prod.ext b.2.1 b.2.2)
     | false=>exact c ⟨b.2.1,rfl⟩
    rw [aN j];simp only [aN f];rw [h.ns];cases jK e nm.1 with
    | some v=>rfl
    | none=>
     simp only;split<;>rfl
theorem VB (o:cM) {s g:hZ} {st:St} {nm:Bs×Bs} {b:List cZ} {t:aO} (m:gW s.opens s.bound st.stk st.ns) (n:z7 b) (r:(58:UInt8)∉nm.1) (h:nD false o.space s nm b=.ok (t,g)) :
  ∃ f k,bW o (.start nm b) st=.ok (t,{ st with stk:=f,ns:=k })∧gW g.opens g.bound f k∧g.rest=s.rest∧g.opens=dV nm::s.opens:=by
 unfold nD at h;rw [aN (by simp)] at h;split at h
 ·cases h
 ·rename_i p;cases i:eT b with
  | error e=>rw [i] at h;cases h
  | ok l=>
   rw [i] at h;cases j:gO o.space (l::s.bound) [] b with
   | error e=>simp only [j] at h;cases h
   | ok x=>
    simp only [j] at h;split at h
    ·cases h
    ·simp only [bT,bR] at h;obtain ⟨rfl,rfl⟩:=h
     have d:gW (dV nm::s.opens) (l::s.bound) ({ kind:=0,space:=nm.1,loc:=nm.2,ok:=false }::(dK b st.stk st.ns).1) (dK b st.stk st.ns).2:=
      .cons nm l _ _ m (by rw [pB,m.top]) (DQ b l st.stk st.ns i n) r p (fun y u=>by
       obtain ⟨a,v,c⟩:=qC i y u;unfold pE at c;split at c
       ·simp only [kD] at c;rw [←c];exact (n.nc a v).2.1
       ·split at c
        ·simp only [kD] at c;rw [←c];simp
        ·cases c)
     refine ⟨_,_,?_,d,rfl,rfl⟩;have e:=FT j;rw [List.nil_append] at e;unfold bW;simp only;rw [AC o d nm true (fun _=>p),e];have q:∀ a:cZ,cX o (dK b st.stk st.ns).2 (a.1,a.2.1) false=(cL o.space (l::s.bound) a.1 false,a.2.1):=fun a=>AC o d (a.1,a.2.1) false (fun h=>by cases h);simp only [q]
theorem FV (o:cM) {s e:hZ} {st:St} {nm:Bs×Bs} {t:aO} (k:gW s.opens s.bound st.stk st.ns) (u:(58:UInt8)∉nm.1) (h:fD false o.space s nm=.ok (t,e)) :
  ∃ a c,bW o (.fin nm) st=.ok (t,{ st with stk:=a,ns:=c })∧gW e.opens e.bound a c∧e.rest=s.rest:=by
 obtain ⟨rest,opens,bound⟩:=s;obtain ⟨r,w,y,a,c,x⟩:=st;simp only at k;unfold fD at h;rw [aN (by simp)] at h;cases k with
 | nil=>cases h
 | cons nm' l stk' ns' b m n i j p=>
  rename_i os v d g;simp only at h;split at h
  ·rename_i q;have:=FU i u q;subst this;simp only [bT,bR] at h;obtain ⟨rfl,rfl⟩:=h;refine ⟨d,g,?_,b,rfl⟩;have f:=gW.cons nm' l stk' c b m n i j p;unfold bW kR;simp only;rw [aN (by simp),aN (by simp),aN (by simp),AC o f nm' true (fun _=>j),m]
  ·cases h
theorem NF (o:cM) (b:o.strict=true) {s:hZ} {st:St} {nm:Bs×Bs} (c:gW s.opens s.bound st.stk st.ns) (h:fD false o.space s nm=.error .bad):bW o (.fin nm) st=.error .syn:=by
 obtain ⟨rest,opens,bound⟩:=s;obtain ⟨r,i,u,g,q,t⟩:=st;simp only at c;unfold fD at h;rw [aN (by simp)] at h;unfold bW kR;cases c with
 | nil=>rfl
 | cons nm' l stk' ns' e p j k m n=>
  simp only at h ⊢;split at h
  ·cases h
  ·rename_i f;rw [aN (by simp)];by_cases a:nm'.2=nm.2
   ·rw [aN (by simpa using a),aV];intro d;exact f (by rw [show nm'=nm from Prod.ext d a])
   ·rw [aV (by simpa using a),aV b]
theorem Q1 {ents:aP} {first em:Bool} {rest r:Bs} {t:aO} (h:kX ents first rest=.ok (t,em,r)):(∀ nm g,t=.start nm g→z7 g∧(58:UInt8)∉nm.1)∧(∀ nm,t=.fin nm→(58:UInt8)∉nm.1):=by
 unfold kX at h;cases rest with
 | nil=>cases h
 | cons b l=>
  simp only at h;split at h
  ·cases s:eC ents ((b::l).length+1) (b::l) [] with
   | error e=>rw [s] at h;cases h
   | ok x=>
    rw [s] at h;simp only [bT,bR] at h;obtain ⟨rfl,_,_⟩:=h;exact ⟨fun _ _ f=>(by cases f),fun _ f=>(by cases f)⟩
  ·cases l with
   | nil=>cases h
   | cons c l2=>
    simp only at h;split at h
    ·cases a:oO l2 with
     | error e=>rw [a] at h;cases h
     | ok x=>
      obtain ⟨nm,u⟩:=x;rw [a] at h;simp only [bT,bR] at h;obtain ⟨rfl,_,_⟩:=h;refine ⟨fun _ _ f=>(by cases f),fun k f=>?_⟩;simp only [aO.fin.injEq] at f;subst f;unfold oO at a;cases j:fZ l2 with
      | error e=>rw [j] at a;cases a
      | ok y=>
       obtain ⟨k,p⟩:=y;rw [j] at a;simp only at a;split at a
       ·cases a
       ·split at a
        ·simp only [bT,bR] at a;obtain ⟨rfl,_⟩:=a;exact (z8 j).1
        ·cases a
    ·split at h
     ·cases a:fV first l2 with
      | error e=>rw [a] at h;cases h
      | ok x=>
       rw [a] at h;simp only [bT,bR] at h;obtain ⟨rfl,_,_⟩:=h;exact ⟨fun _ _ f=>(by cases f),fun _ f=>(by cases f)⟩
     ·split at h
      ·cases a:mQ l2 with
       | error e=>rw [a] at h;cases h
       | ok x=>
        obtain ⟨A,u⟩:=x;rw [a] at h;simp only [bT,bR] at h;obtain ⟨rfl,_,_⟩:=h;unfold mQ at a;have o:∀ i:aO,(∃ d,i=.comment d)∨(∃ d,i=.text d)∨(∃ d,i=.dir d)→(∀ nm g,i=.start nm g→z7 g∧(58:UInt8)∉nm.1)∧(∀ nm,i=.fin nm→(58:UInt8)∉nm.1):=by
         rintro i (⟨d,rfl⟩|⟨d,rfl⟩|⟨d,rfl⟩)<;>exact ⟨fun _ _ f=>(by cases f),fun _ f=>(by cases f)⟩
        refine o _ ?_;split at a
        ·split at a
         ·cases a
         ·simp only [bT,bR] at a;exact aH ⟨_,a.1.symm⟩
        ·split at a
         ·split at a
          ·cases a
          ·simp only [bT,bR] at a;exact aW (aH ⟨_,a.1.symm⟩)
         ·split at a
          ·split at a
           ·cases a
           ·simp only [bT,bR] at a;exact aW (aW ⟨_,a.1.symm⟩)
          ·split at a
           ·cases a
           ·split at a<;>cases a
      ·cases a:fM ents (c::l2) with
       | error e=>rw [a] at h;cases h
       | ok x=>
        obtain ⟨nm,g,v,u⟩:=x;rw [a] at h;simp only [bT,bR] at h;obtain ⟨rfl,_,_⟩:=h;refine ⟨fun k m f=>?_,fun _ f=>(by cases f)⟩;simp only [aO.start.injEq] at f;obtain ⟨rfl,rfl⟩:=f;unfold fM at a;cases j:fZ (c::l2) with
        | error e=>rw [j] at a;cases a
        | ok y=>
         obtain ⟨k,p⟩:=y;rw [j] at a;simp only at a;cases n:dL ents (p.length+1) p [] with
         | error e=>rw [n] at a;cases a
         | ok z=>
          obtain ⟨m,q,w⟩:=z;rw [n] at a;simp only [bT,bR] at a;obtain ⟨rfl,rfl,_,_⟩:=a;exact ⟨B7 _ _ _ _ _ _ ⟨by simp,by simp⟩ n,(z8 j).1⟩
theorem wF:∀ {a:List cZ} {e:SV},eT a=.error e→e=.opn
 | [],e,h=>by unfold eT at h;cases h
 | (sp,loc,v)::a,e,h=>by
  unfold eT at h;by_cases c:sp≠bF∧(sp≠[]∨loc≠bF)
  ·rw [aV c] at h;exact wF h
  ·rw [aN c] at h;generalize (if sp=bF then loc else [])=k at h;by_cases d:k=nA∨k=bF∨(k≠[]∧v=[])∨v=eB∨v=o6
   ·rw [aV d] at h;simpa using h.symm
   ·rw [aN d] at h;cases b:eT a with
    | error e'=>rw [b] at h;simp only [Except.error.injEq] at h;subst h;exact wF b
    | ok y=>rw [b] at h;cases h
theorem B8 {a:Bs} {bound:List aP}:∀ {l acc:List cZ} {e:SV},gO a bound acc l=.error e→e=.opn
 | [],acc,e,h=>by unfold gO at h;cases h
 | (sp,loc,v)::l,acc,e,h=>by
  unfold gO at h;split at h
  ·simpa using h.symm
  ·exact B8 h
theorem NG {a:Bs} {s:hZ} {nm:Bs×Bs} {b:List cZ} {e:SV} (h:nD false a s nm b=.error e):e=.opn:=by
 unfold nD at h;rw [aN (by simp)] at h;split at h
 ·simpa using h.symm
 ·cases c:eT b with
  | error e'=>rw [c] at h;simp only [Except.error.injEq] at h;subst h;exact wF c
  | ok l=>
   rw [c] at h;cases d:gO a (l::s.bound) [] b with
   | error e'=>simp only [d,Except.error.injEq] at h;subst h;exact B8 d
   | ok x=>
    simp only [d] at h;split at h
    ·simpa using h.symm
    ·cases h
theorem AD {fold:Bs→Bs→Bool} {o:cM} (c:o.strict=true∨o.auto=[]) {st a:St} {t:aO} (d:st.next=none) (h:dN o st=.ok (t,a)):hY fold o st=bW o t a:=by
 unfold hY;rw [d];simp only;rw [h];simp only;by_cases b:o.strict=true
 ·rw [aV b]
 ·rw [aN b];have:kS fold o t a=none:=by
   unfold kS;split
   ·rfl
   ·split
    ·rfl
    ·rw [c.resolve_left b];simp
  rw [this]
def Fk (f:Bool):Option SV→EK
 | none=>mF f
 | some _=>.syn
theorem rI (fold:Bs→Bs→Bool) (o:cM) (q:o.raw=false) (A:o.strict=true∨o.auto=[]) (w:mL) (C:w.raw=false) (D:w.space=o.space) (V:k8 o.ents w.ents) (T:Bs):∀ (k:Nat) (s:hZ) (out:List (aO×Nat)) (st:St),s.rest.length<k→st.rest=s.rest→st.toClose=none→st.next=none→(st.ended=true→s.rest=[])→gW s.opens s.bound st.stk st.ns→((mS w T k s out).2=none∨(o.strict=true∧qZ o∧o.fails=false∧(mS w T k s out).2≠some .opn)) →
  ∃ l,eD fold o st l (Fk o.fails (mS w T k s out).2)∧(mS w T k s out).1=out++bV T l
 | 0,_,_,_,h,_,_,_,_,_,_=>by omega
 | k+1,s,out,st,hk,h1,h2,p,h3,M,f=>by
  have g:∀ st:St,stepL fold o st=hY fold o st:=fun st=>by unfold stepL;rw [aN (by rw [q];simp)]
  have c:(mS w T (k+1) s out).2≠some .opn:=by
   rcases f with f|f
   ·rw [f];simp
   ·exact f.2.2.2
  unfold mS at f c ⊢;by_cases hr:s.rest=[]
  ·rw [aV hr];refine ⟨[],.stop ?_,by simp [bV]⟩;have O:dN o st=.error (mF o.fails):=by
    unfold dN;rw [h2,h1,hr];split<;>rfl
   rw [g];unfold hY;rw [p];simp only;rw [O];simp only;by_cases H:s.opens=[]
   ·rw [aV H,aN (fun n=>n.2 (M.empty.1 H))];rfl
   ·have aC:o.fails=false:=by
     rcases f with f|f
     ·rw [aV hr,aN H] at f;cases f
     ·exact f.2.2.1
    rw [aC];rw [aN H,aV (by first|exact ⟨rfl,fun n=>H (M.empty.2 n)⟩|exact ⟨trivial,fun n=>H (M.empty.2 n)⟩)];rfl
  ·have Z:st.ended=false:=by
    cases n:st.ended with
    | false=>rfl
    | true=>exact absurd (h3 n) hr
   rw [aN hr] at f c ⊢;unfold jL at f c ⊢;cases hp:kX w.ents (s.rest.length==T.length) s.rest with
   | error e=>
    rw [hp] at f c;simp only at f c ⊢;have hb:e=.bad:=by
     cases e with
     | bad=>rfl
     | opn=>exact absurd rfl c
    subst hb;have u:o.strict=true∧qZ o∧o.fails=false:=by
     rcases f with f|f
     ·cases f
     ·exact ⟨f.1,f.2.1,f.2.2.1⟩
    refine ⟨[],.stop ?_,by simp [bV]⟩;rw [g];unfold hY;rw [p];simp only;rw [ND o V u.1 u.2.2 u.2.1 st Z h2 (by rw [h1];exact hp)];simp only;rw [aN (fun n=>by cases n.1)];rfl
   | ok x=>
    obtain ⟨t,em,r⟩:=x;rw [hp] at f c;simp only at f c ⊢;obtain ⟨W,hl,F⟩:=FR o V st Z h2 (by rw [h1];exact hp);obtain ⟨a1,a0⟩:=Q1 hp;have a3:r.length<s.rest.length:=by
     obtain ⟨_,_,_,_,_,_,h7⟩:=iB hl;rcases h7 with ⟨nm,X,_⟩|⟨_,X,_⟩
     ·rw [h2] at X;cases X
     ·have:=QZ t;simp only at X;rw [h1] at X;omega
    have v:=AD (fold:=fold) A p hl;have U:(∀ nm j,t≠.start nm j)→(∀ nm,t≠.fin nm)→kY w { s with rest:=r } t em=.ok ([t],{ s with rest:=r })∧JA t em=none∧∀ st,bW o t st=.ok (t,st):=by
     intro hs hf;cases t with
     | start nm j=>exact absurd rfl (hs nm j)
     | fin nm=>exact absurd rfl (hf nm)
     | text d=>exact ⟨rfl,rfl,fun _=>rfl⟩
     | comment d=>exact ⟨rfl,rfl,fun _=>rfl⟩
     | dir d=>exact ⟨rfl,rfl,fun _=>rfl⟩
     | proc a b=>exact ⟨rfl,rfl,fun _=>rfl⟩
    by_cases u:∃ nm j,t=.start nm j
    ·obtain ⟨nm,j,rfl⟩:=u;obtain ⟨ha,hn⟩:=a1 nm j rfl;have G:W=false:=by
      cases n:W with
      | false=>rfl
      | true=>obtain ⟨_,d,hd⟩:=F n;cases hd
     subst G;unfold kY at f c ⊢;simp only [C,D] at f c ⊢;cases H:nD false o.space { s with rest:=r } nm j with
     | error e=>
      rw [H] at c;simp only at c;exact absurd (by rw [NG H]) c
     | ok y=>
      obtain ⟨t1,s2⟩:=y;rw [H] at f c;simp only at f c ⊢;obtain ⟨i,E,hw,Y,B,a2⟩:=VB o (s:={ s with rest:=r }) (st:={ st with rest:=r,toClose:=JA (.start nm j) em,ended:=false }) M ha hn H;rw [hw] at v;cases em with
      | false=>
       simp only [sS,if_false,List.map_cons,List.map_nil] at f c ⊢;obtain ⟨l,Q,R⟩:=rI fold o q A w C D V T k s2 _ { st with rest:=r,toClose:=none,ended:=false,stk:=i,ns:=E } (by rw [B];show r.length<k;omega) B.symm rfl p (fun h=>by cases h) Y f;refine ⟨_::l,.more (by rw [g];exact v) Q,?_⟩;rw [R,B];simp [bV,JA]
      | true=>
       simp only [if_true] at f c ⊢;cases J:fD false o.space s2 nm with
       | error e=>
        exfalso;unfold fD at J;rw [aN (by simp),a2] at J;simp at J
       | ok z=>
        obtain ⟨t2,s3⟩:=z;rw [J] at f c;simp only [List.map_cons,List.map_nil] at f c ⊢;obtain ⟨I,S,P,N,m⟩:=FV o (st:={ st with rest:=r,toClose:=none,ended:=false,stk:=i,ns:=E }) Y hn J;have aL:dN o { st with rest:=r,toClose:=some nm,ended:=false,stk:=i,ns:=E }=.ok (.fin nm,{ st with rest:=r,toClose:=none,ended:=false,stk:=i,ns:=E }):=by
         unfold dN;rfl
        have L:=AD (fold:=fold) (st:={ st with rest:=r,toClose:=some nm,ended:=false,stk:=i,ns:=E }) A p aL;rw [P] at L;obtain ⟨l,Q,R⟩:=rI fold o q A w C D V T k s3 _ { st with rest:=r,toClose:=none,ended:=false,stk:=I,ns:=S } (by rw [m,B];show r.length<k;omega) (by rw [m,B]) rfl p (fun h=>by cases h) N f;refine ⟨_::_::l,.more (by rw [g];exact v) (.more (by rw [g];exact L) Q),?_⟩;rw [R,m,B];simp [bV]
    ·by_cases aA:∃ nm,t=.fin nm
     ·obtain ⟨nm,rfl⟩:=aA;have G:W=false:=by
       cases n:W with
       | false=>rfl
       | true=>obtain ⟨_,d,hd⟩:=F n;cases hd
      subst G;unfold kY at f c ⊢;simp only [C,D] at f c ⊢;cases J:fD false o.space { s with rest:=r } nm with
      | error e=>
       rw [J] at f c;simp only at f c ⊢;have hb:e=.bad:=by
        cases e with
        | bad=>rfl
        | opn=>exact absurd rfl c
       subst hb;have u:o.strict=true:=by
        rcases f with f|f
        ·cases f
        ·exact f.1
       refine ⟨[],.stop ?_,by simp [bV]⟩;rw [g,v];exact NF o u (s:={ s with rest:=r }) M J
      | ok z=>
       obtain ⟨t2,s3⟩:=z;rw [J] at f c;simp only [List.map_cons,List.map_nil] at f c ⊢;obtain ⟨I,S,P,N,m⟩:=FV o (s:={ s with rest:=r }) (st:={ st with rest:=r,toClose:=JA (.fin nm) em,ended:=false }) M (a0 nm rfl) J;rw [P] at v;obtain ⟨l,Q,R⟩:=rI fold o q A w C D V T k s3 _ { st with rest:=r,toClose:=none,ended:=false,stk:=I,ns:=S } (by rw [m];show r.length<k;omega) (by rw [m]) rfl p (fun h=>by cases h) N f;refine ⟨_::l,.more (by rw [g];exact v) Q,?_⟩;rw [R,m];simp [bV,JA]
     ·obtain ⟨p1,p2,p3⟩:=U (fun nm j n=>u ⟨nm,j,n⟩) (fun nm n=>aA ⟨nm,n⟩);rw [p1] at f c ⊢;simp only [List.map_cons,List.map_nil] at f c ⊢;rw [p3,p2] at v;obtain ⟨l,Q,R⟩:=rI fold o q A w C D V T k { s with rest:=r } _ { st with rest:=r,toClose:=none,ended:=W } (by show r.length<k;omega) rfl rfl p (fun h=>(F h).1) M f;refine ⟨_::l,.more (by rw [g];exact v) Q,?_⟩;rw [R];simp [bV]
theorem uP (fold:Bs→Bs→Bool) (o:cM) (b:o.raw=false) (c:o.strict=true∨o.auto=[]) (a:o.ents=none) (T:Bs) (f:(cV ⟨false,[],o.space⟩ T).2=none) :
  ∃ l,eD fold o (St.init T) l (mF o.fails)∧(cV ⟨false,[],o.space⟩ T).1=bV T l:=by
 obtain ⟨l,d,e⟩:=rI fold o b c ⟨false,[],o.space⟩ rfl rfl (by rw [a];exact yQ) T (T.length+1) ⟨T,[],[]⟩ [] (St.init T) (Nat.lt_succ_self _) rfl rfl rfl (fun h=>by cases h) .nil (aH f);have g:(mS ⟨false,[],o.space⟩ T (T.length+1) ⟨T,[],[]⟩ []).2=none:=f;rw [g] at d;exact ⟨l,d,by rw [List.nil_append] at e;exact e⟩
end Go.Proofs.YthapcchcahnfaaaGreatDoor
