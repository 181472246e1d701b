/- Part of the proof that laws.FnStrictIsLoose, laws.FnUnclosed, laws.FnReaderFails, laws.FnWithin, laws.FnSkip returns true for every argument. No conditions. -/
import Derived.Test.YthapcchcahnfaaaGreatDoorP01
set_option linter.all false
set_option maxHeartbeats 8000000
set_option maxRecDepth 100000
namespace Go.Proofs.YthapcchcahnfaaaGreatDoor
open Go
theorem eR {a b:Bs} (h:a <:+ b):a.length≤b.length:=h.length_le
theorem fH (l:Bs):aT l <:+ l:=by
 induction l with
 | nil=>exact List.suffix_refl _
 | cons b r ih=>unfold aT;split;exact ih.trans (qP b r);exact List.suffix_refl _
theorem pM (l:Bs):(aD l).1++(aD l).2=l:=by
 induction l with
 | nil=>rfl
 | cons b r ih=>unfold aD;split<;>simp [ih]
theorem EI (a:Bool) (l:Bs):(bQ a l).1++(bQ a l).2=l:=by
 induction l with
 | nil=>rfl
 | cons b r ih=>unfold bQ;split<;>simp [ih]
theorem wR (l:Bs):(eJ l).1++(eJ l).2=l:=by
 induction l with
 | nil=>rfl
 | cons b r ih=>unfold eJ;split<;>simp [ih]
theorem CW (l:Bs):(aD l).2 <:+ l:=⟨_,pM l⟩
theorem EJ (a:Bool) (l:Bs):(bQ a l).2 <:+ l:=⟨_,EI a l⟩
theorem EL (l:Bs):(eJ l).2 <:+ l:=⟨_,wR l⟩
theorem EM {f:Bool} {l n r:Bs} (h:eE f l=.ok (n,r)):aD l=(n,r)∧r≠[]∧n≠[]∧dJ n=true:=by
 unfold eE at h;split at h
 ·cases h
 ·rename_i a;split at h
  ·cases h
  ·rename_i b;split at h
   ·rename_i c;simp only [bT] at h;rw [h] at a b c;exact ⟨h,a,b,c⟩
   ·cases h
theorem vO {f:Bool} {l n r:Bs} (h:eE f l=.ok (n,r)):r <:+ l∧r.length<l.length:=by
 obtain ⟨b,_,c,_⟩:=EM h;have a:=pM l;rw [b] at a;refine ⟨⟨_,a⟩,?_⟩;have:=List.length_pos_iff.2 c;rw [←a];simp;exact this
theorem pN {f:Bool} {l r:Bs} {nm:Bs×Bs} (h:cH f l=.ok (nm,r)):∃ s,eE f l=.ok (s,r)∧¬ 1<eO s∧nm=eP s:=by
 unfold cH at h;split at h
 ·cases h
 ·rename_i s c a;split at h
  ·cases h
  ·rename_i b;simp only [bT,bR] at h;obtain ⟨rfl,rfl⟩:=h;exact ⟨s,a,b,rfl⟩
theorem kE {f:Bool} {l r:Bs} {nm:Bs×Bs} (h:cH f l=.ok (nm,r)):r <:+ l∧r.length<l.length:=by
 obtain ⟨s,a,_⟩:=pN h;exact vO a
theorem yK {fails c:Bool} {pre rest a:Bs} {t:Option Bs} {r:Bs} (h:eA fails c pre rest=.ok (a,t,r)):r <:+ rest:=by
 unfold eA at h;have e:=EJ c rest;split at h
 ·cases h
 ·rename_i b d f;rw [f] at e;split at h<;>(simp only [bT,bR] at h;obtain ⟨_,_,rfl⟩:=h)
  ·exact (qP b _).trans e
  ·exact e
theorem iE {fails:Bool} {ents:Option (Bs→Option Bs)} {rest a:Bs} {t:Option Bs} {r:Bs} (h:hH fails ents rest=.ok (a,t,r)):r <:+ rest:=by
 unfold hH at h;split at h
 ·cases h
 ·rename_i c i;split at h
  ·split at h
   ·cases h
   ·rename_i d j;split at h
    ·split at h
     ·cases h
     ·exact ((yK h).trans (qP d _)).trans (qP c _)
    ·exact (yK h).trans (qP c _)
  ·have f:=CW (c::i);split at h
   ·cases h
   ·rename_i b e g;rw [g] at f;split at h<;>(simp only [bT,bR] at h;obtain ⟨_,_,rfl⟩:=h)
    ·exact (qP b _).trans f
    ·exact f
theorem L5 (o:cM) (q:Option UInt8) (i:Bool):∀ (n:Nat) (rest:Bs),rest.length≤n→∀ (b0 b1:UInt8) (a d r:Bs),bE o q i rest b0 b1 a=.ok (d,r)→r <:+ rest:=by
 intro n;induction n with
 | zero=>
  intro rest g b0 b1 a d r h;have:rest=[]:=tZ (by omega);subst this;unfold bE at h;split at h
  ·cases h
  ·split at h
   ·simp only [bT,bR] at h;rw [←h.2];exact List.suffix_refl _
   ·cases h
 | succ n ih=>
  intro rest g b0 b1 a d r h;cases rest with
  | nil=>
   unfold bE at h;split at h
   ·cases h
   ·split at h
    ·simp only [bT,bR] at h;rw [←h.2];exact List.suffix_refl _
    ·cases h
  | cons b t=>
   have j:t.length≤n:=by simp at g;omega
   have c:=qP b t;unfold bE at h;split at h
   ·split at h
    ·split at h
     ·simp only [bT,bR] at h;rw [←h.2];exact c
     ·cases h
    ·cases h
   ·split at h
    ·split at h
     ·split at h
      ·simp only [bT,bR] at h;rw [←h.2];exact List.suffix_refl _
      ·cases h
     ·cases h
    ·split at h
     ·split at h
      ·simp only [bT,bR] at h;rw [←h.2];exact c
      ·cases h
     ·split at h
      ·split at h
       ·cases h
       ·rename_i f;have e:=iE f;exact ((ih _ (by have:=eR e;omega) _ _ _ _ _ h).trans e).trans c
       ·rename_i f;have e:=iE f;split at h
        ·cases h
        ·exact ((ih _ (by have:=eR e;omega) _ _ _ _ _ h).trans e).trans c
      ·exact (ih _ j _ _ _ _ _ h).trans c
theorem nB {o:cM} {q:Option UInt8} {b:Bool} {rest:Bs} {b0 b1:UInt8} {a d r:Bs} (h:bE o q b rest b0 b1 a=.ok (d,r)):r <:+ rest:=L5 o q b rest.length rest (dD _) b0 b1 a d r h
theorem EN {o:cM} {b:UInt8} {t d r:Bs} (e:b≠60) (h:bE o none false (b::t) 0 0 []=.ok (d,r)):r <:+ t:=by
 unfold bE at h;split at h
 ·rename_i a;exact absurd a.2.1 (by decide)
 ·split at h
  ·rename_i a;exact absurd a.1 e
  ·split at h
   ·rename_i a;cases a
   ·split at h
    ·split at h
     ·cases h
     ·rename_i c;exact (nB h).trans (iE c)
     ·rename_i c;split at h
      ·cases h
      ·exact (nB h).trans (iE c)
    ·exact nB h
theorem CX {o:cM} {l d r:Bs} (h:cS o l=.ok (d,r)):r <:+ l:=by
 unfold cS at h;split at h
 ·cases h
 ·rename_i q t;split at h
  ·exact (nB h).trans (qP q _)
  ·split at h
   ·cases h
   ·split at h
    ·cases h
    ·simp only [bT] at h;have:=EL (q::t);rw [h] at this;exact this
theorem oY {o:cM} {l:Bs} {a:cZ} {r:Bs} (h:fO o l=.ok (a,r)):r <:+ l∧r.length<l.length:=by
 unfold fO at h;split at h
 ·cases h
 ·rename_i nm k g;obtain ⟨e,n⟩:=kE g;have c:=fH k;split at h
  ·cases h
  ·rename_i b d i;rw [i] at c;split at h
   ·split at h
    ·cases h
    ·rename_i v m j;simp only [bT,bR] at h;obtain ⟨_,rfl⟩:=h;have f:=(((CX j).trans (fH d)).trans (qP b d)).trans c;exact ⟨f.trans e,by have:=eR f;omega⟩
   ·split at h
    ·cases h
    ·simp only [bT,bR] at h;obtain ⟨_,rfl⟩:=h;exact ⟨c.trans e,by have:=eR c;omega⟩
theorem yL {o:cM}:∀ {k:Nat} {rest:Bs} {acc e:List cZ} {em:Bool} {r:Bs},cQ o k rest acc=.ok (e,em,r)→r <:+ rest∧e.length+r.length+1≤acc.length+rest.length
 | 0,_,_,_,_,_,h=>by unfold cQ at h;cases h
 | k+1,rest,acc,e,em,r,h=>by
  unfold cQ at h;have d:=fH rest;split at h
  ·cases h
  ·rename_i b p g;rw [g] at d;have f:=eR d;simp only [gN] at f;split at h
   ·split at h
    ·cases h
    ·rename_i c q;split at h
     ·simp only [bT,bR] at h;obtain ⟨rfl,_,rfl⟩:=h;exact ⟨((qP c _).trans (qP b _)).trans d,by simp only [gN] at f;omega⟩
     ·cases h
   ·split at h
    ·simp only [bT,bR] at h;obtain ⟨rfl,_,rfl⟩:=h;exact ⟨(qP b _).trans d,by omega⟩
    ·split at h
     ·cases h
     ·rename_i a s i;obtain ⟨j,l⟩:=oY i;obtain ⟨m,n⟩:=yL h;exact ⟨(m.trans j).trans d,by simp only [fY,gN,List.length_nil] at n l;omega⟩
theorem t6 {f:Bool}:∀ {l:Bs} {b0 b1:UInt8} {a d r:Bs},bZ f l b0 b1 a=.ok (d,r)→r <:+ l
 | [],_,_,_,_,_,h=>by unfold bZ at h;cases h
 | b::l,b0,b1,a,d,r,h=>by
  unfold bZ at h;split at h
  ·split at h
   ·simp only [bT,bR] at h;rw [←h.2];exact qP b l
   ·cases h
  ·exact (t6 h).trans (qP b l)
theorem BF {f:Bool}:∀ {l:Bs} {b0:UInt8} {a d r:Bs},gH f l b0 a=.ok (d,r)→r <:+ l
 | [],_,_,_,_,h=>by unfold gH at h;cases h
 | b::l,b0,a,d,r,h=>by
  unfold gH at h;split at h
  ·simp only [bT,bR] at h;rw [←h.2];exact qP b l
  ·exact (BF h).trans (qP b l)
theorem pO {f:Bool}:∀ {l:Bs} {b0 b1:UInt8} {r:Bs},cJ f l b0 b1=.ok r→r <:+ l
 | [],_,_,_,h=>by unfold cJ at h;cases h
 | b::l,b0,b1,r,h=>by
  unfold cJ at h;split at h
  ·simp only [bT] at h;rw [←h];exact qP b l
  ·exact (pO h).trans (qP b l)
theorem TU (f:Bool):∀ n:Nat,(∀ rest:Bs,rest.length≤n→∀ (c:UInt8) (g:Int) (a d r:Bs),dW f rest c g a=.ok (d,r)→r <:+ rest) ∧
  (∀ rest:Bs,rest.length≤n→∀ (b c:UInt8) (g:Int) (a d r:Bs),fT f b rest c g a=.ok (d,r)→r <:+ rest):=by
 intro n;induction n with
 | zero=>
  have i:∀ rest:Bs,rest.length≤0→∀ (c:UInt8) (g:Int) (a d r:Bs),dW f rest c g a=.ok (d,r)→r <:+ rest:=by
   intro rest e c g a d r h;have:rest=[]:=tZ (by omega);subst this;unfold dW at h;cases h
  refine ⟨i,?_⟩;intro rest e b c g a d r h;have:rest=[]:=tZ (by omega);subst this;unfold fT at h;repeat' split at h
  all_goals first
   | exact i [] (dD _) _ _ _ _ _ h
   | (cases h;done)
   | (rename_i v _;cases v;done)
   | simp_all
 | succ n ih=>
  obtain ⟨w,j⟩:=ih;have i:∀ rest:Bs,rest.length≤n+1→∀ (c:UInt8) (g:Int) (a d r:Bs),dW f rest c g a=.ok (d,r)→r <:+ rest:=by
   intro rest e c g a d r h;unfold dW at h;split at h
   ·cases h
   ·rename_i b t;split at h
    ·simp only [bT,bR] at h;rw [←h.2];exact qP b _
    ·exact (j _ (by simp at e;omega) _ _ _ _ _ _ h).trans (qP b _)
  refine ⟨i,?_⟩;intro rest e b c g a d r h;unfold fT at h;split at h
  ·exact i _ e _ _ _ _ _ h
  ·split at h
   ·exact i _ e _ _ _ _ _ h
   ·split at h
    ·exact i _ e _ _ _ _ _ h
    ·split at h
     ·exact i _ e _ _ _ _ _ h
     ·split at h
      ·split at h
       ·cases h
       ·rename_i p x;have k:=qP p x;split at h
        ·split at h
         ·cases h
         ·rename_i q y;have l:=qP q y;split at h
          ·split at h
           ·cases h
           ·rename_i s z;have m:=qP s z;split at h
            ·split at h
             ·cases h
             ·rename_i A u;have o:=pO u;have:=eR o;exact ((((i _ (by simp at e;omega) _ _ _ _ _ h).trans o).trans m).trans l).trans k
            ·exact (((j _ (by simp at e;omega) _ _ _ _ _ _ h).trans m).trans l).trans k
          ·exact ((j _ (by simp at e;omega) _ _ _ _ _ _ h).trans l).trans k
        ·exact (j _ (by simp at e;omega) _ _ _ _ _ _ h).trans k
      ·exact i _ e _ _ _ _ _ h
theorem OW {f:Bool} {rest:Bs} {b:UInt8} {c:Int} {a d r:Bs} (h:dW f rest b c a=.ok (d,r)):r <:+ rest:=(TU f rest.length).1 rest (dD _) _ _ _ _ _ h
theorem OX {o:cM} {l:Bs} {t:aO} {r:Bs} (h:kQ o l=.ok (t,r)):r <:+ l∧∃ nm,t=.fin nm:=by
 unfold kQ at h;split at h
 ·cases h
 ·rename_i nm e c;have a:=fH e;split at h
  ·cases h
  ·rename_i b f d;rw [d] at a;split at h
   ·simp only [bT,bR] at h;obtain ⟨rfl,rfl⟩:=h;exact ⟨((qP b _).trans a).trans (kE c).1,nm,rfl⟩
   ·cases h
theorem KG {o:cM} {l:Bs} {t:aO} {r:Bs} (h:vL o l=.ok (t,r)):r <:+ l∧∃ a b,t=.proc a b:=by
 unfold vL at h;split at h
 ·cases h
 ·rename_i f e c;split at h
  ·cases h
  ·rename_i i g d;split at h
   ·cases h
   ·simp only [bT,bR] at h;obtain ⟨rfl,rfl⟩:=h;exact ⟨((BF d).trans (fH e)).trans (vO c).1,f,i,rfl⟩
theorem yM {f:Bool}:∀ {p l r:Bs},dQ f p l=.ok r→r <:+ l
 | [],l,r,h=>by unfold dQ at h;simp only [bT] at h;rw [h];exact List.suffix_refl _
 | _::_,[],r,h=>by unfold dQ at h;cases h
 | p::ps,b::l,r,h=>by
  unfold dQ at h;split at h
  ·exact (yM h).trans (qP b l)
  ·cases h
theorem BG {o:cM} {l:Bs} {t:aO} {r:Bs} (h:gS o l=.ok (t,r)):r <:+ l∧((∃ d,t=.comment d)∨(∃ d,t=.text d)∨∃ d,t=.dir d):=by
 unfold gS at h;split at h
 ·cases h
 ·rename_i b j;have a:=qP b j;split at h
  ·split at h
   ·cases h
   ·rename_i c g;have i:=qP c g;split at h
    ·split at h
     ·cases h
     ·rename_i d k f;simp only [bT,bR] at h;obtain ⟨rfl,rfl⟩:=h;exact ⟨((t6 f).trans i).trans a,aH ⟨d,rfl⟩⟩
    ·cases h
  ·split at h
   ·split at h
    ·cases h
    ·rename_i g e;split at h
     ·cases h
     ·rename_i d k f;simp only [bT,bR] at h;obtain ⟨rfl,rfl⟩:=h;exact ⟨((nB f).trans (yM e)).trans a,aW (aH ⟨d,rfl⟩)⟩
   ·split at h
    ·cases h
    ·rename_i d g e;simp only [bT,bR] at h;obtain ⟨rfl,rfl⟩:=h;exact ⟨(OW e).trans a,aW (aW ⟨d,rfl⟩)⟩
theorem yN {o:cM} {l:Bs} {nm:Bs×Bs} {a:List cZ} {em:Bool} {r:Bs} (h:eG o l=.ok ((nm,a),em,r)):r <:+ l∧a.length+r.length+2≤l.length:=by
 unfold eG at h;split at h
 ·cases h
 ·rename_i f k d;split at h
  ·cases h
  ·rename_i b c m e;simp only [bT,bR] at h;obtain ⟨⟨rfl,rfl⟩,rfl,rfl⟩:=h;obtain ⟨g,n⟩:=kE d;obtain ⟨i,j⟩:=yL e;exact ⟨i.trans g,by simp at j;omega⟩
def aO.wt:aO→Nat
 | .start _ as=>1+as.length
 | _=>1
theorem iB {o:cM} {s j:St} {t:aO} (h:dN o s=.ok (t,j)) :
  s.ended=false∧j.stk=s.stk∧j.ns=s.ns∧j.next=s.next∧j.rest <:+ s.rest∧(j.ended=true→j.rest=[]) ∧
  ((∃ nm,s.toClose=some nm∧t=.fin nm∧j={ s with toClose:=none }) ∨
   (s.toClose=none∧t.wt+j.rest.length≤s.rest.length∧(j.ended=true→∃ d,t=.text d)∧(∀ nm,j.toClose=some nm→∃ m,t=.start nm m))):=by
 unfold dN at h;split at h
 ·cases h
 ·rename_i z;have e:s.ended=false:=by simpa using z
  refine ⟨e,?_⟩;split at h
  ·rename_i nm i;simp only [bT,bR] at h;obtain ⟨rfl,rfl⟩:=h;exact ⟨rfl,rfl,rfl,List.suffix_refl _,(fun a=>by rw [e] at a;cases a),aH ⟨nm,i,rfl,rfl⟩⟩
  ·rename_i i;split at h
   ·cases h
   ·rename_i b r k;split at h
    ·rename_i w;split at h
     ·cases h
     ·rename_i d p v;simp only [bT,bR] at h;obtain ⟨rfl,rfl⟩:=h;have g:=EN w v;refine ⟨rfl,rfl,rfl,by rw [k];exact g.trans (qP b r),fun a=>by simpa using a,aW ⟨i,?_,fun _=>⟨d,rfl⟩,fun nm f=>by rw [i] at f;cases f⟩⟩;have:=eR g;simp only [aO.wt,gN,k];omega
    ·split at h
     ·cases h
     ·rename_i c p;have n:=(qP c p).trans (qP b (c::p));split at h
      ·split at h
       ·cases h
       ·rename_i u q l;simp only [bT,bR] at h;obtain ⟨rfl,rfl⟩:=h;obtain ⟨g,nm,rfl⟩:=OX l;have:=eR g;exact ⟨rfl,rfl,rfl,by rw [k];exact g.trans n,(fun a=>by rw [e] at a;cases a),aW ⟨i,by simp only [aO.wt,gN,k];omega,(fun a=>by rw [e] at a;cases a),fun nm f=>by rw [i] at f;cases f⟩⟩
      ·split at h
       ·split at h
        ·cases h
        ·rename_i u q l;simp only [bT,bR] at h;obtain ⟨rfl,rfl⟩:=h;obtain ⟨g,x,y,rfl⟩:=KG l;have:=eR g;exact ⟨rfl,rfl,rfl,by rw [k];exact g.trans n,(fun a=>by rw [e] at a;cases a),aW ⟨i,by simp only [aO.wt,gN,k];omega,(fun a=>by rw [e] at a;cases a),fun nm f=>by rw [i] at f;cases f⟩⟩
       ·split at h
        ·split at h
         ·cases h
         ·rename_i u q l;simp only [bT,bR] at h;obtain ⟨rfl,rfl⟩:=h;obtain ⟨g,A⟩:=BG l;have:=eR g;have B:u.wt=1:=by rcases A with ⟨d,rfl⟩|⟨d,rfl⟩|⟨d,rfl⟩<;>rfl
          exact ⟨rfl,rfl,rfl,by rw [k];exact g.trans n,(fun a=>by rw [e] at a;cases a),aW ⟨i,by simp only [B,gN,k];omega,(fun a=>by rw [e] at a;cases a),fun nm f=>by rw [i] at f;cases f⟩⟩
        ·split at h
         ·cases h
         ·rename_i nm m em q l;simp only [bT,bR] at h;obtain ⟨rfl,rfl⟩:=h;obtain ⟨g,D⟩:=yN l;refine ⟨rfl,rfl,rfl,by rw [k];exact g.trans (qP b _),(fun a=>by rw [e] at a;cases a),aW ⟨i,by simp only [aO.wt,gN,k] at D ⊢;omega,(fun a=>by rw [e] at a;cases a),fun C f=>?_⟩⟩;cases em
          ·cases f
          ·simp at f;subst f;exact ⟨m,rfl⟩
inductive eD (fold:Bs→Bs→Bool) (o:cM):St→List (aO×St)→EK→Prop
 | stop {s e}:stepL fold o s=.error e→eD fold o s [] e
 | more {s t s' l e}:stepL fold o s=.ok (t,s')→eD fold o s' l e→eD fold o s ((t,s')::l) e
theorem eD.det {fold:Bs→Bs→Bool} {o:cM} {s:St} {l l':List (aO×St)} {e c:EK} (h:eD fold o s l e) (d:eD fold o s l' c):l=l'∧e=c:=by
 induction h generalizing l' c with
 | stop b=>
  cases d with
  | stop a=>rw [b] at a;cases a;exact ⟨rfl,rfl⟩
  | more a _=>rw [b] at a;cases a
 | more b _ ih=>
  cases d with
  | stop a=>rw [b] at a;cases a
  | more a f=>
   rw [b] at a;simp only [bT,bR] at a;obtain ⟨rfl,rfl⟩:=a;obtain ⟨rfl,rfl⟩:=ih f;exact ⟨rfl,rfl⟩
theorem L6 {fold:Bs→Bs→Bool} {o:cM} (h:o.auto=[]) (t:aO) (s:St):kS fold o t s=none:=by
 unfold kS;rw [h];split
 ·rfl
 ·split<;>simp
def OY (o:cM) (s:St):Except EK (aO×St):=
 match dN o s with
 | .error e=>.error (if e=.eof∧s.stk≠[] then .syn else e)
 | .ok (t,s')=>bW o t s'
theorem OZ {fold:Bs→Bs→Bool} {o:cM} (h:o.auto=[]) {s:St} (a:s.next=none):hY fold o s=OY o s:=by
 unfold hY OY;rw [a];cases dN o s with
 | error e=>rfl
 | ok p=>
  obtain ⟨t,b⟩:=p;simp only [L6 h];split<;>rfl
def s6 (o:cM) (s:St):Except EK (aO×St):=if o.raw then dN o s else OY o s
theorem sB {fold:Bs→Bs→Bool} {o:cM} (h:o.auto=[]) {s:St} (a:s.next=none):stepL fold o s=s6 o s:=by
 unfold stepL s6;rw [OZ h a]
theorem sD:∀ (c:List cZ) (a:List gT) (b:Bs→Option Bs),(dK c a b).1.length≤a.length+c.length
 | [],a,b=>by simp [dK]
 | (sp,loc,v)::c,a,b=>by
  unfold dK;by_cases d:sp=bF
  ·have e:¬ (sp=[]∧loc=bF):=by rintro ⟨h,_⟩;rw [d] at h;cases h
   simp only [aV d,aN e];have:=sD c ({ kind:=1,space:=(b loc).getD [],loc:=loc,ok:=(b loc).isSome }::a) (iA b loc (some v));simp only [gN] at this ⊢;omega
  ·by_cases e:sp=[]∧loc=bF
   ·simp only [aN d,aV e];have:=sD c ({ kind:=1,space:=(b []).getD [],loc:=[],ok:=(b []).isSome }::a) (iA b [] (some v));simp only [gN] at this ⊢;omega
   ·simp only [aN d,aN e];have:=sD c a b;simp only [gN] at this ⊢;omega
theorem BH:∀ (a:List gT) (b:Bs→Option Bs),(fA a b).1.length≤a.length
 | [],_=>by simp [fA]
 | e::a,b=>by
  unfold fA;split
  ·exact dD _
  ·have:=BH a (iA b e.loc (if e.ok then some e.space else none));simp only [gN];omega
theorem l5 {o:cM} {t g:aO} {s a:St} (h:bW o t s=.ok (g,a)) :
  a.rest=s.rest∧a.ended=s.ended∧a.next=s.next∧((∃ nm b,t=.start nm b)↔(∃ nm b,g=.start nm b))∧((∃ nm,t=.fin nm)↔∃ nm,g=.fin nm) ∧
  (a.toClose=s.toClose∨(o.strict=false∧∃ nm,t=.fin nm))∧((∃ nm,t=.fin nm)→a.stk.length<s.stk.length)∧((¬ ∃ nm,t=.fin nm)→a.stk.length+1≤s.stk.length+1+t.wt):=by
 unfold bW at h;split at h
 ·rename_i nm b;simp only [bT,bR] at h;obtain ⟨rfl,rfl⟩:=h;refine ⟨rfl,rfl,rfl,⟨fun _=>⟨_,_,rfl⟩,fun _=>⟨_,_,rfl⟩⟩,⟨by simp,by simp⟩,aH rfl,by simp,fun _=>?_⟩;have:=sD b s.stk s.ns;simp only [gN,aO.wt];omega
 ·rename_i nm;unfold kR at h;split at h
  ·cases h
  ·rename_i e f i;split at h
   ·cases h
   ·split at h
    ·split at h
     ·cases h
     ·rename_i d;simp only [bT,bR] at h;obtain ⟨rfl,rfl⟩:=h;refine ⟨rfl,rfl,rfl,⟨by simp,by simp⟩,⟨fun _=>⟨_,rfl⟩,fun _=>⟨_,rfl⟩⟩,aW ⟨by simpa using d,_,rfl⟩,fun _=>by rw [i];simp,fun c=>absurd ⟨_,rfl⟩ c⟩
    ·split at h
     ·cases h
     ·simp only [bT,bR] at h;obtain ⟨rfl,rfl⟩:=h;refine ⟨rfl,rfl,rfl,⟨by simp,by simp⟩,⟨fun _=>⟨_,rfl⟩,fun _=>⟨_,rfl⟩⟩,aH rfl,fun _=>?_,fun c=>absurd ⟨_,rfl⟩ c⟩;have:=BH f s.ns;rw [i];simp only [gN];omega
 ·rename_i l k j;simp only [bT,bR] at h;obtain ⟨rfl,rfl⟩:=h;refine ⟨rfl,rfl,rfl,Iff.rfl,Iff.rfl,aH rfl,fun ⟨nm,c⟩=>absurd c (j nm),fun _=>by omega⟩
def St.mu (s:St):Nat:=8*s.rest.length+4*s.stk.length+(if s.toClose.isSome then 1 else 0)
theorem KH (s:St):(if s.toClose.isSome then 1 else 0)≤1:=by split<;>omega
theorem vQ {o:cM} {s b:St} {t:aO} (h:dN o s=.ok (t,b)):b.mu<s.mu∧((¬ ∃ nm,t=.fin nm)→b.mu+4*t.wt<s.mu)∧b.stk=s.stk∧b.rest <:+ s.rest:=by
 obtain ⟨_,c,_,_,e,_,d⟩:=iB h;refine ⟨?_,?_,c,e⟩
 ·rcases d with ⟨nm,a,_,rfl⟩|⟨a,f,_⟩
  ·unfold St.mu;simp [a]
  ·have:=KH b;have g:1≤t.wt:=by unfold aO.wt;split<;>omega
   unfold St.mu;rw [c,a];simp;omega
 ·intro i;rcases d with ⟨nm,_,a,_⟩|⟨a,f,_⟩
  ·exact absurd ⟨nm,a⟩ i
  ·have:=KH b;have g:1≤t.wt:=by unfold aO.wt;split<;>omega
   unfold St.mu;rw [c,a];simp;omega
theorem O0 {o:cM} {s a:St} {t:aO} (h:s6 o s=.ok (t,a)):a.mu<s.mu∧a.rest <:+ s.rest∧a.next=s.next:=by
 unfold s6 at h;split at h
 ·exact ⟨(vQ h).1,(vQ h).2.2.2,(iB h).2.2.2.1⟩
 ·unfold OY at h;split at h
  ·cases h
  ·rename_i l k d;obtain ⟨f,i,q,j⟩:=vQ d;obtain ⟨w1,r,m,u,v,b,n,p⟩:=l5 h;refine ⟨?_,by rw [w1];exact j,m.trans (iB d).2.2.2.1⟩;by_cases c:∃ nm,l=.fin nm
   ·have:=n c;have e:=KH a;unfold St.mu at f ⊢;rw [w1];split at f<;>omega
   ·have:=p c;have e:=i c;have g:a.toClose=k.toClose:=by
     rcases b with b|⟨_,b⟩
     ·exact b
     ·exact absurd b c
    unfold St.mu at e ⊢;rw [w1,g];omega
theorem EO {o:cM} {s:St} (M:s.ended=true→s.rest=[]) (h:dN o s=.error .eof):s.rest=[]:=by
 have d:∀ f,cE f≠.eof:=by intro f;cases f<;>simp [cE]
 have v:∀ {f l},eE f l≠.error .eof:=by
  intro f l h;unfold eE at h;split at h
  ·exact d f (by simpa using h)
  ·split at h
   ·cases h
   ·split at h<;>cases h
 have r:∀ {f l},cH f l≠.error .eof:=by
  intro f l h;unfold cH at h;split at h
  ·rename_i a;simp only [Except.error.injEq] at h;subst h;exact v a
  ·split at h<;>cases h
 have w:∀ {f L p l},eA f L p l≠.error .eof:=by
  intro f L p l h;unfold eA at h;split at h
  ·exact d f (by simpa using h)
  ·split at h<;>cases h
 have H:∀ {f J l},hH f J l≠.error .eof:=by
  intro f J l h;unfold hH at h;split at h
  ·exact d f (by simpa using h)
  ·split at h
   ·split at h
    ·exact d f (by simpa using h)
    ·split at h
     ·split at h
      ·exact d f (by simpa using h)
      ·exact w h
     ·exact w h
   ·split at h
    ·exact d f (by simpa using h)
    ·split at h<;>cases h
 have u:∀ n {q x l b0 b1 c},l.length≤n→bE o q x l b0 b1 c≠.error .eof:=by
  intro n;induction n with
  | zero=>
   intro q x l b0 b1 c i h;have:l=[]:=tZ (by omega);subst this;unfold bE at h;split at h
   ·exact d _ (by simpa using h)
   ·split at h<;>cases h
  | succ n ih=>
   intro q x l b0 b1 c i h;cases l with
   | nil=>
    unfold bE at h;split at h
    ·exact d _ (by simpa using h)
    ·split at h<;>cases h
   | cons b t=>
    have N:t.length≤n:=by simp at i;omega
    unfold bE at h;split at h
    ·split at h
     ·split at h<;>cases h
     ·cases h
    ·split at h
     ·split at h
      ·split at h<;>cases h
      ·cases h
     ·split at h
      ·split at h<;>cases h
      ·split at h
       ·split at h
        ·rename_i a;simp only [Except.error.injEq] at h;subst h;exact H a
        ·rename_i G;exact ih (by have:=eR (iE G);omega) h
        ·rename_i G;split at h
         ·cases h
         ·exact ih (by have:=eR (iE G);omega) h
       ·exact ih N h
 have A:∀ {l},cS o l≠.error .eof:=by
  intro l h;unfold cS at h;split at h
  ·exact d _ (by simpa using h)
  ·split at h
   ·exact u _ (dD _) h
   ·split at h
    ·cases h
    ·split at h
     ·exact d _ (by simpa using h)
     ·cases h
 have z:∀ {l},fO o l≠.error .eof:=by
  intro l h;unfold fO at h;split at h
  ·rename_i a;simp only [Except.error.injEq] at h;subst h;exact r a
  ·split at h
   ·exact d _ (by simpa using h)
   ·split at h
    ·split at h
     ·rename_i a;simp only [Except.error.injEq] at h;subst h;exact A a
     ·cases h
    ·split at h<;>cases h
 have y:∀ k {l acc},cQ o k l acc≠.error .eof:=by
  intro k;induction k with
  | zero=>intro l acc h;unfold cQ at h;cases h
  | succ k ih=>
   intro l acc h;unfold cQ at h;split at h
   ·exact d _ (by simpa using h)
   ·split at h
    ·split at h
     ·exact d _ (by simpa using h)
     ·split at h<;>cases h
    ·split at h
     ·cases h
     ·split at h
      ·rename_i a;simp only [Except.error.injEq] at h;subst h;exact z a
      ·exact ih h
 have B:∀ {f l b0 b1 c},bZ f l b0 b1 c≠.error .eof:=by
  intro f l;induction l with
  | nil=>intro b0 b1 c h;unfold bZ at h;exact d _ (by simpa using h)
  | cons b l ih=>
   intro b0 b1 c h;unfold bZ at h;split at h
   ·split at h<;>cases h
   ·exact ih h
 have F:∀ {f l b0 c},gH f l b0 c≠.error .eof:=by
  intro f l;induction l with
  | nil=>intro b0 c h;unfold gH at h;exact d _ (by simpa using h)
  | cons b l ih=>
   intro b0 c h;unfold gH at h;split at h
   ·cases h
   ·exact ih h
 have I:∀ {f l b0 b1},cJ f l b0 b1≠.error .eof:=by
  intro f l;induction l with
  | nil=>intro b0 b1 h;unfold cJ at h;exact d _ (by simpa using h)
  | cons b l ih=>
   intro b0 b1 h;unfold cJ at h;split at h
   ·cases h
   ·exact ih h
 have C:∀ n {f},(∀ {l e j c},l.length≤n→dW f l e j c≠.error .eof)∧(∀ {b l e j c},l.length≤n→fT f b l e j c≠.error .eof):=by
  intro n f;induction n with
  | zero=>
   have a:∀ {l e j c},l.length≤0→dW f l e j c≠.error .eof:=by
    intro l e j c i h;have:l=[]:=tZ (by omega);subst this;unfold dW at h;exact d _ (by simpa using h)
   refine ⟨a,?_⟩;intro b l e j c i h;have:l=[]:=tZ (by omega);subst this;unfold fT at h;repeat' split at h
   all_goals first
    | exact a (dD _) h
    | exact d _ (by simpa using h)
    | simp_all
  | succ n ih=>
   obtain ⟨O,m⟩:=ih;have a:∀ {l e j c},l.length≤n+1→dW f l e j c≠.error .eof:=by
    intro l e j c i h;unfold dW at h;split at h
    ·exact d _ (by simpa using h)
    ·split at h
     ·cases h
     ·exact m (by simp at i;omega) h
   refine ⟨a,?_⟩;intro b l e j c i h;unfold fT at h;split at h
   ·exact a i h
   ·split at h
    ·exact a i h
    ·split at h
     ·exact a i h
     ·split at h
      ·exact a i h
      ·split at h
       ·split at h
        ·exact d _ (by simpa using h)
        ·split at h
         ·split at h
          ·exact d _ (by simpa using h)
          ·split at h
           ·split at h
            ·exact d _ (by simpa using h)
            ·split at h
             ·split at h
              ·rename_i D;simp only [Except.error.injEq] at h;subst h;exact I D
              ·rename_i P D;have:=eR (pO D);exact a (by simp at i;omega) h
             ·exact m (by simp at i;omega) h
           ·exact m (by simp at i;omega) h
         ·exact m (by simp at i;omega) h
       ·exact a i h
 have E:∀ {f p l},dQ f p l≠.error .eof:=by
  intro f p;induction p with
  | nil=>intro l h;unfold dQ at h;cases h
  | cons p ps ih=>
   intro l h;cases l with
   | nil=>unfold dQ at h;exact d _ (by simpa using h)
   | cons b l=>
    unfold dQ at h;split at h
    ·exact ih h
    ·cases h
 unfold dN at h;split at h
 ·rename_i a;exact M a
 ·split at h
  ·cases h
  ·split at h
   ·assumption
   ·exfalso;split at h
    ·split at h
     ·rename_i a;simp only [Except.error.injEq] at h;subst h;exact u _ (dD _) a
     ·cases h
    ·split at h
     ·exact d _ (by simpa using h)
     ·split at h
      ·split at h
       ·rename_i a;simp only [Except.error.injEq] at h;subst h;unfold kQ at a;split at a
        ·rename_i g;simp only [Except.error.injEq] at a;subst a;exact r g
        ·split at a
         ·exact d _ (by simpa using a)
         ·split at a<;>cases a
       ·cases h
      ·split at h
       ·split at h
        ·rename_i a;simp only [Except.error.injEq] at h;subst h;unfold vL at a;split at a
         ·rename_i g;simp only [Except.error.injEq] at a;subst a;exact v g
         ·split at a
          ·rename_i g;simp only [Except.error.injEq] at a;subst a;exact F g
          ·split at a<;>cases a
        ·cases h
       ·split at h
        ·split at h
         ·rename_i a;simp only [Except.error.injEq] at h;subst h;unfold gS at a;split at a
          ·exact d _ (by simpa using a)
          ·split at a
           ·split at a
            ·exact d _ (by simpa using a)
            ·split at a
             ·split at a
              ·rename_i g;simp only [Except.error.injEq] at a;subst a;exact B g
              ·cases a
             ·cases a
           ·split at a
            ·split at a
             ·rename_i g;simp only [Except.error.injEq] at a;subst a;exact E g
             ·split at a
              ·rename_i g;simp only [Except.error.injEq] at a;subst a;exact u _ (dD _) g
              ·cases a
            ·split at a
             ·rename_i g;simp only [Except.error.injEq] at a;subst a;exact (C _).1 (dD _) g
             ·cases a
         ·cases h
        ·split at h
         ·rename_i a;simp only [Except.error.injEq] at h;subst h;unfold eG at a;split at a
          ·rename_i g;simp only [Except.error.injEq] at a;subst a;exact r g
          ·split at a
           ·rename_i g;simp only [Except.error.injEq] at a;subst a;exact y _ g
           ·cases a
         ·cases h
end Go.Proofs.YthapcchcahnfaaaGreatDoor
