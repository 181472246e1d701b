/- Part of the proof that laws.FnWithin returns true for every argument. No conditions. -/
import Derived.Test.YthapcchcahnfaaaGreatDoorQ01
set_option linter.all false
set_option maxHeartbeats 8000000
set_option maxRecDepth 100000
namespace Go.Proofs.YthapcchcahnfaaaGreatDoor
open Go
theorem eI {a b:Bs} (h:a <:+ b):a.length≤b.length:=h.length_le
theorem eV (l:Bs):aQ l <:+ l:=by
 induction l with
 | nil=>exact List.suffix_refl _
 | cons b r ih=>unfold aQ;split;exact ih.trans (pL b r);exact List.suffix_refl _
theorem oS (l:Bs):(aD l).1++(aD l).2=l:=by
 induction l with
 | nil=>rfl
 | cons b r ih=>unfold aD;split<;>simp [ih]
theorem C1 (a:Bool) (l:Bs):(bL a l).1++(bL a l).2=l:=by
 induction l with
 | nil=>rfl
 | cons b r ih=>unfold bL;split<;>simp [ih]
theorem uX (l:Bs):(dZ l).1++(dZ l).2=l:=by
 induction l with
 | nil=>rfl
 | cons b r ih=>unfold dZ;split<;>simp [ih]
theorem BG (l:Bs):(aD l).2 <:+ l:=⟨_,oS l⟩
theorem C2 (a:Bool) (l:Bs):(bL a l).2 <:+ l:=⟨_,C1 a l⟩
theorem C3 (l:Bs):(dZ l).2 <:+ l:=⟨_,uX l⟩
theorem C4 {f:Bool} {l n r:Bs} (h:dV f l=.ok (n,r)):aD l=(n,r)∧r≠[]∧n≠[]∧dB n=true:=by
 unfold dV at h;split at h
 ·cases h
 ·rename_i a;split at h
  ·cases h
  ·rename_i b;split at h
   ·rename_i c;simp only [bT] at h;rw [h] at a b c;exact ⟨h,a,b,c⟩
   ·cases h
theorem t7 {f:Bool} {l n r:Bs} (h:dV f l=.ok (n,r)):r <:+ l∧r.length<l.length:=by
 obtain ⟨b,_,c,_⟩:=C4 h;have a:=oS l;rw [b] at a;refine ⟨⟨_,a⟩,?_⟩;have:=List.length_pos_iff.2 c;rw [←a];simp;exact this
theorem oU {f:Bool} {l r:Bs} {nm:Bs×Bs} (h:bZ f l=.ok (nm,r)):∃ s,dV f l=.ok (s,r)∧¬ 1<eF s∧nm=eG s:=by
 unfold bZ at h;split at h
 ·cases h
 ·rename_i s c a;split at h
  ·cases h
  ·rename_i b;simp only [bT,bP] at h;obtain ⟨rfl,rfl⟩:=h;exact ⟨s,a,b,rfl⟩
theorem jL {f:Bool} {l r:Bs} {nm:Bs×Bs} (h:bZ f l=.ok (nm,r)):r <:+ l∧r.length<l.length:=by
 obtain ⟨s,a,_⟩:=oU h;exact t7 a
theorem xC {fails c:Bool} {pre rest a:Bs} {t:Option Bs} {r:Bs} (h:dO fails c pre rest=.ok (a,t,r)):r <:+ rest:=by
 unfold dO at h;have e:=C2 c rest;split at h
 ·cases h
 ·rename_i b d f;rw [f] at e;split at h<;>(simp only [bT,bP] at h;obtain ⟨_,_,rfl⟩:=h)
  ·exact (pL b _).trans e
  ·exact e
theorem gW {fails:Bool} {ents:Option (Bs→Option Bs)} {rest a:Bs} {t:Option Bs} {r:Bs} (h:gR fails ents rest=.ok (a,t,r)):r <:+ rest:=by
 unfold gR at h;split at h
 ·cases h
 ·rename_i c i;split at h
  ·split at h
   ·cases h
   ·rename_i d j;split at h
    ·split at h
     ·cases h
     ·exact ((xC h).trans (pL d _)).trans (pL c _)
    ·exact (xC h).trans (pL c _)
  ·have f:=BG (c::i);split at h
   ·cases h
   ·rename_i b e g;rw [g] at f;split at h<;>(simp only [bT,bP] at h;obtain ⟨_,_,rfl⟩:=h)
    ·exact (pL b _).trans f
    ·exact f
theorem J0 (o:cP) (q:Option UInt8) (i:Bool):∀ (n:Nat) (rest:Bs),rest.length≤n→∀ (b0 b1:UInt8) (a d r:Bs),bD o q i rest b0 b1 a=.ok (d,r)→r <:+ rest:=by
 intro n;induction n with
 | zero=>
  intro rest g b0 b1 a d r h;have:rest=[]:=tZ (by omega);subst this;unfold bD at h;split at h
  ·cases h
  ·split at h
   ·simp only [bT,bP] at h;rw [←h.2];exact List.suffix_refl _
   ·cases h
 | succ n ih=>
  intro rest g b0 b1 a d r h;cases rest with
  | nil=>
   unfold bD at h;split at h
   ·cases h
   ·split at h
    ·simp only [bT,bP] at h;rw [←h.2];exact List.suffix_refl _
    ·cases h
  | cons b t=>
   have j:t.length≤n:=by simp at g;omega
   have c:=pL b t;unfold bD at h;split at h
   ·split at h
    ·split at h
     ·simp only [bT,bP] at h;rw [←h.2];exact c
     ·cases h
    ·cases h
   ·split at h
    ·split at h
     ·split at h
      ·simp only [bT,bP] at h;rw [←h.2];exact List.suffix_refl _
      ·cases h
     ·cases h
    ·split at h
     ·split at h
      ·simp only [bT,bP] at h;rw [←h.2];exact c
      ·cases h
     ·split at h
      ·split at h
       ·cases h
       ·rename_i f;have e:=gW f;exact ((ih _ (by have:=eI e;omega) _ _ _ _ _ h).trans e).trans c
       ·rename_i f;have e:=gW f;split at h
        ·cases h
        ·exact ((ih _ (by have:=eI e;omega) _ _ _ _ _ h).trans e).trans c
      ·exact (ih _ j _ _ _ _ _ h).trans c
theorem mN {o:cP} {q:Option UInt8} {b:Bool} {rest:Bs} {b0 b1:UInt8} {a d r:Bs} (h:bD o q b rest b0 b1 a=.ok (d,r)):r <:+ rest:=J0 o q b rest.length rest (dC _) b0 b1 a d r h
theorem C5 {o:cP} {b:UInt8} {t d r:Bs} (e:b≠60) (h:bD o none false (b::t) 0 0 []=.ok (d,r)):r <:+ t:=by
 unfold bD at h;split at h
 ·rename_i a;exact absurd a.2.1 (by decide)
 ·split at h
  ·rename_i a;exact absurd a.1 e
  ·split at h
   ·rename_i a;cases a
   ·split at h
    ·split at h
     ·cases h
     ·rename_i c;exact (mN h).trans (gW c)
     ·rename_i c;split at h
      ·cases h
      ·exact (mN h).trans (gW c)
    ·exact mN h
theorem BH {o:cP} {l d r:Bs} (h:cK o l=.ok (d,r)):r <:+ l:=by
 unfold cK at h;split at h
 ·cases h
 ·rename_i q t;split at h
  ·exact (mN h).trans (pL q _)
  ·split at h
   ·cases h
   ·split at h
    ·cases h
    ·simp only [bT] at h;have:=C3 (q::t);rw [h] at this;exact this
theorem oB {o:cP} {l:Bs} {a:cV} {r:Bs} (h:fC o l=.ok (a,r)):r <:+ l∧r.length<l.length:=by
 unfold fC at h;split at h
 ·cases h
 ·rename_i nm k g;obtain ⟨e,n⟩:=jL g;have c:=eV k;split at h
  ·cases h
  ·rename_i b d i;rw [i] at c;split at h
   ·split at h
    ·cases h
    ·rename_i v m j;simp only [bT,bP] at h;obtain ⟨_,rfl⟩:=h;have f:=(((BH j).trans (eV d)).trans (pL b d)).trans c;exact ⟨f.trans e,by have:=eI f;omega⟩
   ·split at h
    ·cases h
    ·simp only [bT,bP] at h;obtain ⟨_,rfl⟩:=h;exact ⟨c.trans e,by have:=eI c;omega⟩
theorem xD {o:cP}:∀ {k:Nat} {rest:Bs} {acc e:List cV} {em:Bool} {r:Bs},cI o k rest acc=.ok (e,em,r)→r <:+ rest∧e.length+r.length+1≤acc.length+rest.length
 | 0,_,_,_,_,_,h=>by unfold cI at h;cases h
 | k+1,rest,acc,e,em,r,h=>by
  unfold cI at h;have d:=eV rest;split at h
  ·cases h
  ·rename_i b p g;rw [g] at d;have f:=eI d;simp only [gF] at f;split at h
   ·split at h
    ·cases h
    ·rename_i c q;split at h
     ·simp only [bT,bP] at h;obtain ⟨rfl,_,rfl⟩:=h;exact ⟨((pL c _).trans (pL b _)).trans d,by simp only [gF] at f;omega⟩
     ·cases h
   ·split at h
    ·simp only [bT,bP] at h;obtain ⟨rfl,_,rfl⟩:=h;exact ⟨(pL b _).trans d,by omega⟩
    ·split at h
     ·cases h
     ·rename_i a s i;obtain ⟨j,l⟩:=oB i;obtain ⟨m,n⟩:=xD h;exact ⟨(m.trans j).trans d,by simp only [fU,gF,List.length_nil] at n l;omega⟩
theorem sO {f:Bool}:∀ {l:Bs} {b0 b1:UInt8} {a d r:Bs},bR f l b0 b1 a=.ok (d,r)→r <:+ l
 | [],_,_,_,_,_,h=>by unfold bR at h;cases h
 | b::l,b0,b1,a,d,r,h=>by
  unfold bR at h;split at h
  ·split at h
   ·simp only [bT,bP] at h;rw [←h.2];exact pL b l
   ·cases h
  ·exact (sO h).trans (pL b l)
theorem zX {f:Bool}:∀ {l:Bs} {b0:UInt8} {a d r:Bs},fY f l b0 a=.ok (d,r)→r <:+ l
 | [],_,_,_,_,h=>by unfold fY at h;cases h
 | b::l,b0,a,d,r,h=>by
  unfold fY at h;split at h
  ·simp only [bT,bP] at h;rw [←h.2];exact pL b l
  ·exact (zX h).trans (pL b l)
theorem oV {f:Bool}:∀ {l:Bs} {b0 b1:UInt8} {r:Bs},cC f l b0 b1=.ok r→r <:+ l
 | [],_,_,_,h=>by unfold cC at h;cases h
 | b::l,b0,b1,r,h=>by
  unfold cC at h;split at h
  ·simp only [bT] at h;rw [←h];exact pL b l
  ·exact (oV h).trans (pL b l)
theorem RA (f:Bool):∀ n:Nat,(∀ rest:Bs,rest.length≤n→∀ (c:UInt8) (g:Int) (a d r:Bs),dL f rest c g a=.ok (d,r)→r <:+ rest) ∧
  (∀ rest:Bs,rest.length≤n→∀ (b c:UInt8) (g:Int) (a d r:Bs),fJ f b rest c g a=.ok (d,r)→r <:+ rest):=by
 intro n;induction n with
 | zero=>
  have i:∀ rest:Bs,rest.length≤0→∀ (c:UInt8) (g:Int) (a d r:Bs),dL f rest c g a=.ok (d,r)→r <:+ rest:=by
   intro rest e c g a d r h;have:rest=[]:=tZ (by omega);subst this;unfold dL at h;cases h
  refine ⟨i,?_⟩;intro rest e b c g a d r h;have:rest=[]:=tZ (by omega);subst this;unfold fJ at h;repeat' split at h
  all_goals first
   | exact i [] (dC _) _ _ _ _ _ h
   | (cases h;done)
   | (rename_i v _;cases v;done)
   | simp_all
 | succ n ih=>
  obtain ⟨w,j⟩:=ih;have i:∀ rest:Bs,rest.length≤n+1→∀ (c:UInt8) (g:Int) (a d r:Bs),dL f rest c g a=.ok (d,r)→r <:+ rest:=by
   intro rest e c g a d r h;unfold dL at h;split at h
   ·cases h
   ·rename_i b t;split at h
    ·simp only [bT,bP] at h;rw [←h.2];exact pL b _
    ·exact (j _ (by simp at e;omega) _ _ _ _ _ _ h).trans (pL b _)
  refine ⟨i,?_⟩;intro rest e b c g a d r h;unfold fJ at h;split at h
  ·exact i _ e _ _ _ _ _ h
  ·split at h
   ·exact i _ e _ _ _ _ _ h
   ·split at h
    ·exact i _ e _ _ _ _ _ h
    ·split at h
     ·exact i _ e _ _ _ _ _ h
     ·split at h
      ·split at h
       ·cases h
       ·rename_i p x;have k:=pL p x;split at h
        ·split at h
         ·cases h
         ·rename_i q y;have l:=pL q y;split at h
          ·split at h
           ·cases h
           ·rename_i s z;have m:=pL s z;split at h
            ·split at h
             ·cases h
             ·rename_i A u;have o:=oV u;have:=eI o;exact ((((i _ (by simp at e;omega) _ _ _ _ _ h).trans o).trans m).trans l).trans k
            ·exact (((j _ (by simp at e;omega) _ _ _ _ _ _ h).trans m).trans l).trans k
          ·exact ((j _ (by simp at e;omega) _ _ _ _ _ _ h).trans l).trans k
        ·exact (j _ (by simp at e;omega) _ _ _ _ _ _ h).trans k
      ·exact i _ e _ _ _ _ _ h
theorem MP {f:Bool} {rest:Bs} {b:UInt8} {c:Int} {a d r:Bs} (h:dL f rest b c a=.ok (d,r)):r <:+ rest:=(RA f rest.length).1 rest (dC _) _ _ _ _ _ h
theorem MQ {o:cP} {l:Bs} {t:aU} {r:Bs} (h:jW o l=.ok (t,r)):r <:+ l∧∃ nm,t=.fin nm:=by
 unfold jW at h;split at h
 ·cases h
 ·rename_i nm e c;have a:=eV e;split at h
  ·cases h
  ·rename_i b f d;rw [d] at a;split at h
   ·simp only [bT,bP] at h;obtain ⟨rfl,rfl⟩:=h;exact ⟨((pL b _).trans a).trans (jL c).1,nm,rfl⟩
   ·cases h
theorem IP {o:cP} {l:Bs} {t:aU} {r:Bs} (h:tY o l=.ok (t,r)):r <:+ l∧∃ a b,t=.proc a b:=by
 unfold tY at h;split at h
 ·cases h
 ·rename_i f e c;split at h
  ·cases h
  ·rename_i i g d;split at h
   ·cases h
   ·simp only [bT,bP] at h;obtain ⟨rfl,rfl⟩:=h;exact ⟨((zX d).trans (eV e)).trans (t7 c).1,f,i,rfl⟩
theorem xE {f:Bool}:∀ {p l r:Bs},dH f p l=.ok r→r <:+ l
 | [],l,r,h=>by unfold dH at h;simp only [bT] at h;rw [h];exact List.suffix_refl _
 | _::_,[],r,h=>by unfold dH at h;cases h
 | p::ps,b::l,r,h=>by
  unfold dH at h;split at h
  ·exact (xE h).trans (pL b l)
  ·cases h
theorem zY {o:cP} {l:Bs} {t:aU} {r:Bs} (h:gJ o l=.ok (t,r)):r <:+ l∧((∃ d,t=.comment d)∨(∃ d,t=.text d)∨∃ d,t=.dir d):=by
 unfold gJ at h;split at h
 ·cases h
 ·rename_i b j;have a:=pL b j;split at h
  ·split at h
   ·cases h
   ·rename_i c g;have i:=pL c g;split at h
    ·split at h
     ·cases h
     ·rename_i d k f;simp only [bT,bP] at h;obtain ⟨rfl,rfl⟩:=h;exact ⟨((sO f).trans i).trans a,aG ⟨d,rfl⟩⟩
    ·cases h
  ·split at h
   ·split at h
    ·cases h
    ·rename_i g e;split at h
     ·cases h
     ·rename_i d k f;simp only [bT,bP] at h;obtain ⟨rfl,rfl⟩:=h;exact ⟨((mN f).trans (xE e)).trans a,aX (aG ⟨d,rfl⟩)⟩
   ·split at h
    ·cases h
    ·rename_i d g e;simp only [bT,bP] at h;obtain ⟨rfl,rfl⟩:=h;exact ⟨(MP e).trans a,aX (aX ⟨d,rfl⟩)⟩
theorem xF {o:cP} {l:Bs} {nm:Bs×Bs} {a:List cV} {em:Bool} {r:Bs} (h:dX o l=.ok ((nm,a),em,r)):r <:+ l∧a.length+r.length+2≤l.length:=by
 unfold dX at h;split at h
 ·cases h
 ·rename_i f k d;split at h
  ·cases h
  ·rename_i b c m e;simp only [bT,bP] at h;obtain ⟨⟨rfl,rfl⟩,rfl,rfl⟩:=h;obtain ⟨g,n⟩:=jL d;obtain ⟨i,j⟩:=xD e;exact ⟨i.trans g,by simp at j;omega⟩
def aU.wt:aU→Nat
 | .start _ as=>1+as.length
 | _=>1
theorem iN {o:cP} {s j:St} {t:aU} (h:eC o s=.ok (t,j)) :
  s.ended=false∧j.stk=s.stk∧j.ns=s.ns∧j.next=s.next∧j.rest <:+ s.rest∧(j.ended=true→j.rest=[]) ∧
  ((∃ nm,s.toClose=some nm∧t=.fin nm∧j={ s with toClose:=none }) ∨
   (s.toClose=none∧t.wt+j.rest.length≤s.rest.length∧(j.ended=true→∃ d,t=.text d)∧(∀ nm,j.toClose=some nm→∃ m,t=.start nm m))):=by
 unfold eC at h;split at h
 ·cases h
 ·rename_i z;have e:s.ended=false:=by simpa using z
  refine ⟨e,?_⟩;split at h
  ·rename_i nm i;simp only [bT,bP] at h;obtain ⟨rfl,rfl⟩:=h;exact ⟨rfl,rfl,rfl,List.suffix_refl _,(fun a=>by rw [e] at a;cases a),aG ⟨nm,i,rfl,rfl⟩⟩
  ·rename_i i;split at h
   ·cases h
   ·rename_i b r k;split at h
    ·rename_i w;split at h
     ·cases h
     ·rename_i d p v;simp only [bT,bP] at h;obtain ⟨rfl,rfl⟩:=h;have g:=C5 w v;refine ⟨rfl,rfl,rfl,by rw [k];exact g.trans (pL b r),fun a=>by simpa using a,aX ⟨i,?_,fun _=>⟨d,rfl⟩,fun nm f=>by rw [i] at f;cases f⟩⟩;have:=eI g;simp only [aU.wt,gF,k];omega
    ·split at h
     ·cases h
     ·rename_i c p;have n:=(pL c p).trans (pL b (c::p));split at h
      ·split at h
       ·cases h
       ·rename_i u q l;simp only [bT,bP] at h;obtain ⟨rfl,rfl⟩:=h;obtain ⟨g,nm,rfl⟩:=MQ l;have:=eI g;exact ⟨rfl,rfl,rfl,by rw [k];exact g.trans n,(fun a=>by rw [e] at a;cases a),aX ⟨i,by simp only [aU.wt,gF,k];omega,(fun a=>by rw [e] at a;cases a),fun nm f=>by rw [i] at f;cases f⟩⟩
      ·split at h
       ·split at h
        ·cases h
        ·rename_i u q l;simp only [bT,bP] at h;obtain ⟨rfl,rfl⟩:=h;obtain ⟨g,x,y,rfl⟩:=IP l;have:=eI g;exact ⟨rfl,rfl,rfl,by rw [k];exact g.trans n,(fun a=>by rw [e] at a;cases a),aX ⟨i,by simp only [aU.wt,gF,k];omega,(fun a=>by rw [e] at a;cases a),fun nm f=>by rw [i] at f;cases f⟩⟩
       ·split at h
        ·split at h
         ·cases h
         ·rename_i u q l;simp only [bT,bP] at h;obtain ⟨rfl,rfl⟩:=h;obtain ⟨g,A⟩:=zY l;have:=eI g;have B:u.wt=1:=by rcases A with ⟨d,rfl⟩|⟨d,rfl⟩|⟨d,rfl⟩<;>rfl
          exact ⟨rfl,rfl,rfl,by rw [k];exact g.trans n,(fun a=>by rw [e] at a;cases a),aX ⟨i,by simp only [B,gF,k];omega,(fun a=>by rw [e] at a;cases a),fun nm f=>by rw [i] at f;cases f⟩⟩
        ·split at h
         ·cases h
         ·rename_i nm m em q l;simp only [bT,bP] at h;obtain ⟨rfl,rfl⟩:=h;obtain ⟨g,D⟩:=xF l;refine ⟨rfl,rfl,rfl,by rw [k];exact g.trans (pL b _),(fun a=>by rw [e] at a;cases a),aX ⟨i,by simp only [aU.wt,gF,k] at D ⊢;omega,(fun a=>by rw [e] at a;cases a),fun C f=>?_⟩⟩;cases em
          ·cases f
          ·simp at f;subst f;exact ⟨m,rfl⟩
inductive jX (fold:Bs→Bs→Bool) (o:cP):St→List (aU×St)→EK→Prop
 | stop {s e}:fT fold o s=.error e→jX fold o s [] e
 | more {s t s' l e}:fT fold o s=.ok (t,s')→jX fold o s' l e→jX fold o s ((t,s')::l) e
theorem jX.det {fold:Bs→Bs→Bool} {o:cP} {s:St} {l l':List (aU×St)} {e c:EK} (h:jX fold o s l e) (d:jX fold o s l' c):l=l'∧e=c:=by
 induction h generalizing l' c with
 | stop b=>
  cases d with
  | stop a=>rw [b] at a;cases a;exact ⟨rfl,rfl⟩
  | more a _=>rw [b] at a;cases a
 | more b _ ih=>
  cases d with
  | stop a=>rw [b] at a;cases a
  | more a f=>
   rw [b] at a;simp only [bT,bP] at a;obtain ⟨rfl,rfl⟩:=a;obtain ⟨rfl,rfl⟩:=ih f;exact ⟨rfl,rfl⟩
theorem J1 {fold:Bs→Bs→Bool} {o:cP} (h:o.auto=[]) (t:aU) (s:St):kV fold o t s=none:=by
 unfold kV;rw [h];split
 ·rfl
 ·split<;>simp
def MR (o:cP) (s:St):Except EK (aU×St):=
 match eC o s with
 | .error e=>.error (if e=.eof∧s.stk≠[] then .syn else e)
 | .ok (t,s')=>cG o t s'
theorem MS {fold:Bs→Bs→Bool} {o:cP} (h:o.auto=[]) {s:St} (a:s.next=none):kR fold o s=MR o s:=by
 unfold kR MR;rw [a];cases eC o s with
 | error e=>rfl
 | ok p=>
  obtain ⟨t,b⟩:=p;simp only [J1 h];split<;>rfl
def xG (o:cP) (s:St):Except EK (aU×St):=if o.raw then eC o s else MR o s
theorem J2 {fold:Bs→Bs→Bool} {o:cP} (h:o.auto=[]) {s:St} (a:s.next=none):fT fold o s=xG o s:=by
 unfold fT xG;rw [MS h a]
theorem qW:∀ (c:List cV) (a:List gZ) (b:Bs→Option Bs),(dR c a b).1.length≤a.length+c.length
 | [],a,b=>by simp [dR]
 | (sp,loc,v)::c,a,b=>by
  unfold dR;by_cases d:sp=bE
  ·have e:¬ (sp=[]∧loc=bE):=by rintro ⟨h,_⟩;rw [d] at h;cases h
   simp only [aT d,aM e];have:=qW c ({ kind:=1,space:=(b loc).getD [],loc:=loc,ok:=(b loc).isSome }::a) (gT b loc (some v));simp only [gF] at this ⊢;omega
  ·by_cases e:sp=[]∧loc=bE
   ·simp only [aM d,aT e];have:=qW c ({ kind:=1,space:=(b []).getD [],loc:=[],ok:=(b []).isSome }::a) (gT b [] (some v));simp only [gF] at this ⊢;omega
   ·simp only [aM d,aM e];have:=qW c a b;simp only [gF] at this ⊢;omega
theorem zZ:∀ (a:List gZ) (b:Bs→Option Bs),(fD a b).1.length≤a.length
 | [],_=>by simp [fD]
 | e::a,b=>by
  unfold fD;split
  ·exact dC _
  ·have:=zZ a (gT b e.loc (if e.ok then some e.space else none));simp only [gF];omega
theorem oD {o:cP} {t g:aU} {s a:St} (h:cG o t s=.ok (g,a)) :
  a.rest=s.rest∧a.ended=s.ended∧a.next=s.next∧((∃ nm b,t=.start nm b)↔(∃ nm b,g=.start nm b))∧((∃ nm,t=.fin nm)↔∃ nm,g=.fin nm) ∧
  (a.toClose=s.toClose∨(o.strict=false∧∃ nm,t=.fin nm))∧((∃ nm,t=.fin nm)→a.stk.length<s.stk.length)∧((¬ ∃ nm,t=.fin nm)→a.stk.length+1≤s.stk.length+1+t.wt):=by
 unfold cG at h;split at h
 ·rename_i nm b;simp only [bT,bP] at h;obtain ⟨rfl,rfl⟩:=h;refine ⟨rfl,rfl,rfl,⟨fun _=>⟨_,_,rfl⟩,fun _=>⟨_,_,rfl⟩⟩,⟨by simp,by simp⟩,aG rfl,by simp,fun _=>?_⟩;have:=qW b s.stk s.ns;simp only [gF,aU.wt];omega
 ·rename_i nm;unfold lS at h;split at h
  ·cases h
  ·rename_i e f i;split at h
   ·cases h
   ·split at h
    ·split at h
     ·cases h
     ·rename_i d;simp only [bT,bP] at h;obtain ⟨rfl,rfl⟩:=h;refine ⟨rfl,rfl,rfl,⟨by simp,by simp⟩,⟨fun _=>⟨_,rfl⟩,fun _=>⟨_,rfl⟩⟩,aX ⟨by simpa using d,_,rfl⟩,fun _=>by rw [i];simp,fun c=>absurd ⟨_,rfl⟩ c⟩
    ·split at h
     ·cases h
     ·simp only [bT,bP] at h;obtain ⟨rfl,rfl⟩:=h;refine ⟨rfl,rfl,rfl,⟨by simp,by simp⟩,⟨fun _=>⟨_,rfl⟩,fun _=>⟨_,rfl⟩⟩,aG rfl,fun _=>?_,fun c=>absurd ⟨_,rfl⟩ c⟩;have:=zZ f s.ns;rw [i];simp only [gF];omega
 ·rename_i l k j;simp only [bT,bP] at h;obtain ⟨rfl,rfl⟩:=h;refine ⟨rfl,rfl,rfl,Iff.rfl,Iff.rfl,aG rfl,fun ⟨nm,c⟩=>absurd c (j nm),fun _=>by omega⟩
def St.mu (s:St):Nat:=8*s.rest.length+4*s.stk.length+(if s.toClose.isSome then 1 else 0)
theorem IQ (s:St):(if s.toClose.isSome then 1 else 0)≤1:=by split<;>omega
theorem uA {o:cP} {s b:St} {t:aU} (h:eC o s=.ok (t,b)):b.mu<s.mu∧((¬ ∃ nm,t=.fin nm)→b.mu+4*t.wt<s.mu)∧b.stk=s.stk∧b.rest <:+ s.rest:=by
 obtain ⟨_,c,_,_,e,_,d⟩:=iN h;refine ⟨?_,?_,c,e⟩
 ·rcases d with ⟨nm,a,_,rfl⟩|⟨a,f,_⟩
  ·unfold St.mu;simp [a]
  ·have:=IQ b;have g:1≤t.wt:=by unfold aU.wt;split<;>omega
   unfold St.mu;rw [c,a];simp;omega
 ·intro i;rcases d with ⟨nm,_,a,_⟩|⟨a,f,_⟩
  ·exact absurd ⟨nm,a⟩ i
  ·have:=IQ b;have g:1≤t.wt:=by unfold aU.wt;split<;>omega
   unfold St.mu;rw [c,a];simp;omega
theorem MT {o:cP} {s a:St} {t:aU} (h:xG o s=.ok (t,a)):a.mu<s.mu∧a.rest <:+ s.rest∧a.next=s.next:=by
 unfold xG at h;split at h
 ·exact ⟨(uA h).1,(uA h).2.2.2,(iN h).2.2.2.1⟩
 ·unfold MR at h;split at h
  ·cases h
  ·rename_i l k d;obtain ⟨f,i,q,j⟩:=uA d;obtain ⟨w1,r,m,u,v,b,n,p⟩:=oD h;refine ⟨?_,by rw [w1];exact j,m.trans (iN d).2.2.2.1⟩;by_cases c:∃ nm,l=.fin nm
   ·have:=n c;have e:=IQ a;unfold St.mu at f ⊢;rw [w1];split at f<;>omega
   ·have:=p c;have e:=i c;have g:a.toClose=k.toClose:=by
     rcases b with b|⟨_,b⟩
     ·exact b
     ·exact absurd b c
    unfold St.mu at e ⊢;rw [w1,g];omega
theorem MU {o:cP} {s:St} (M:s.ended=true→s.rest=[]) (h:eC o s=.error .eof):s.rest=[]:=by
 have d:∀ f,bW f≠.eof:=by intro f;cases f<;>simp [bW]
 have v:∀ {f l},dV f l≠.error .eof:=by
  intro f l h;unfold dV at h;split at h
  ·exact d f (by simpa using h)
  ·split at h
   ·cases h
   ·split at h<;>cases h
 have r:∀ {f l},bZ f l≠.error .eof:=by
  intro f l h;unfold bZ at h;split at h
  ·rename_i a;simp only [Except.error.injEq] at h;subst h;exact v a
  ·split at h<;>cases h
 have w:∀ {f L p l},dO f L p l≠.error .eof:=by
  intro f L p l h;unfold dO at h;split at h
  ·exact d f (by simpa using h)
  ·split at h<;>cases h
 have H:∀ {f J l},gR f J l≠.error .eof:=by
  intro f J l h;unfold gR at h;split at h
  ·exact d f (by simpa using h)
  ·split at h
   ·split at h
    ·exact d f (by simpa using h)
    ·split at h
     ·split at h
      ·exact d f (by simpa using h)
      ·exact w h
     ·exact w h
   ·split at h
    ·exact d f (by simpa using h)
    ·split at h<;>cases h
 have u:∀ n {q x l b0 b1 c},l.length≤n→bD o q x l b0 b1 c≠.error .eof:=by
  intro n;induction n with
  | zero=>
   intro q x l b0 b1 c i h;have:l=[]:=tZ (by omega);subst this;unfold bD at h;split at h
   ·exact d _ (by simpa using h)
   ·split at h<;>cases h
  | succ n ih=>
   intro q x l b0 b1 c i h;cases l with
   | nil=>
    unfold bD at h;split at h
    ·exact d _ (by simpa using h)
    ·split at h<;>cases h
   | cons b t=>
    have N:t.length≤n:=by simp at i;omega
    unfold bD at h;split at h
    ·split at h
     ·split at h<;>cases h
     ·cases h
    ·split at h
     ·split at h
      ·split at h<;>cases h
      ·cases h
     ·split at h
      ·split at h<;>cases h
      ·split at h
       ·split at h
        ·rename_i a;simp only [Except.error.injEq] at h;subst h;exact H a
        ·rename_i G;exact ih (by have:=eI (gW G);omega) h
        ·rename_i G;split at h
         ·cases h
         ·exact ih (by have:=eI (gW G);omega) h
       ·exact ih N h
 have A:∀ {l},cK o l≠.error .eof:=by
  intro l h;unfold cK at h;split at h
  ·exact d _ (by simpa using h)
  ·split at h
   ·exact u _ (dC _) h
   ·split at h
    ·cases h
    ·split at h
     ·exact d _ (by simpa using h)
     ·cases h
 have z:∀ {l},fC o l≠.error .eof:=by
  intro l h;unfold fC at h;split at h
  ·rename_i a;simp only [Except.error.injEq] at h;subst h;exact r a
  ·split at h
   ·exact d _ (by simpa using h)
   ·split at h
    ·split at h
     ·rename_i a;simp only [Except.error.injEq] at h;subst h;exact A a
     ·cases h
    ·split at h<;>cases h
 have y:∀ k {l acc},cI o k l acc≠.error .eof:=by
  intro k;induction k with
  | zero=>intro l acc h;unfold cI at h;cases h
  | succ k ih=>
   intro l acc h;unfold cI at h;split at h
   ·exact d _ (by simpa using h)
   ·split at h
    ·split at h
     ·exact d _ (by simpa using h)
     ·split at h<;>cases h
    ·split at h
     ·cases h
     ·split at h
      ·rename_i a;simp only [Except.error.injEq] at h;subst h;exact z a
      ·exact ih h
 have B:∀ {f l b0 b1 c},bR f l b0 b1 c≠.error .eof:=by
  intro f l;induction l with
  | nil=>intro b0 b1 c h;unfold bR at h;exact d _ (by simpa using h)
  | cons b l ih=>
   intro b0 b1 c h;unfold bR at h;split at h
   ·split at h<;>cases h
   ·exact ih h
 have F:∀ {f l b0 c},fY f l b0 c≠.error .eof:=by
  intro f l;induction l with
  | nil=>intro b0 c h;unfold fY at h;exact d _ (by simpa using h)
  | cons b l ih=>
   intro b0 c h;unfold fY at h;split at h
   ·cases h
   ·exact ih h
 have I:∀ {f l b0 b1},cC f l b0 b1≠.error .eof:=by
  intro f l;induction l with
  | nil=>intro b0 b1 h;unfold cC at h;exact d _ (by simpa using h)
  | cons b l ih=>
   intro b0 b1 h;unfold cC at h;split at h
   ·cases h
   ·exact ih h
 have C:∀ n {f},(∀ {l e j c},l.length≤n→dL f l e j c≠.error .eof)∧(∀ {b l e j c},l.length≤n→fJ f b l e j c≠.error .eof):=by
  intro n f;induction n with
  | zero=>
   have a:∀ {l e j c},l.length≤0→dL f l e j c≠.error .eof:=by
    intro l e j c i h;have:l=[]:=tZ (by omega);subst this;unfold dL at h;exact d _ (by simpa using h)
   refine ⟨a,?_⟩;intro b l e j c i h;have:l=[]:=tZ (by omega);subst this;unfold fJ at h;repeat' split at h
   all_goals first
    | exact a (dC _) h
    | exact d _ (by simpa using h)
    | simp_all
  | succ n ih=>
   obtain ⟨O,m⟩:=ih;have a:∀ {l e j c},l.length≤n+1→dL f l e j c≠.error .eof:=by
    intro l e j c i h;unfold dL at h;split at h
    ·exact d _ (by simpa using h)
    ·split at h
     ·cases h
     ·exact m (by simp at i;omega) h
   refine ⟨a,?_⟩;intro b l e j c i h;unfold fJ at h;split at h
   ·exact a i h
   ·split at h
    ·exact a i h
    ·split at h
     ·exact a i h
     ·split at h
      ·exact a i h
      ·split at h
       ·split at h
        ·exact d _ (by simpa using h)
        ·split at h
         ·split at h
          ·exact d _ (by simpa using h)
          ·split at h
           ·split at h
            ·exact d _ (by simpa using h)
            ·split at h
             ·split at h
              ·rename_i D;simp only [Except.error.injEq] at h;subst h;exact I D
              ·rename_i P D;have:=eI (oV D);exact a (by simp at i;omega) h
             ·exact m (by simp at i;omega) h
           ·exact m (by simp at i;omega) h
         ·exact m (by simp at i;omega) h
       ·exact a i h
 have E:∀ {f p l},dH f p l≠.error .eof:=by
  intro f p;induction p with
  | nil=>intro l h;unfold dH at h;cases h
  | cons p ps ih=>
   intro l h;cases l with
   | nil=>unfold dH at h;exact d _ (by simpa using h)
   | cons b l=>
    unfold dH at h;split at h
    ·exact ih h
    ·cases h
 unfold eC at h;split at h
 ·rename_i a;exact M a
 ·split at h
  ·cases h
  ·split at h
   ·assumption
   ·exfalso;split at h
    ·split at h
     ·rename_i a;simp only [Except.error.injEq] at h;subst h;exact u _ (dC _) a
     ·cases h
    ·split at h
     ·exact d _ (by simpa using h)
     ·split at h
      ·split at h
       ·rename_i a;simp only [Except.error.injEq] at h;subst h;unfold jW at a;split at a
        ·rename_i g;simp only [Except.error.injEq] at a;subst a;exact r g
        ·split at a
         ·exact d _ (by simpa using a)
         ·split at a<;>cases a
       ·cases h
      ·split at h
       ·split at h
        ·rename_i a;simp only [Except.error.injEq] at h;subst h;unfold tY at a;split at a
         ·rename_i g;simp only [Except.error.injEq] at a;subst a;exact v g
         ·split at a
          ·rename_i g;simp only [Except.error.injEq] at a;subst a;exact F g
          ·split at a<;>cases a
        ·cases h
       ·split at h
        ·split at h
         ·rename_i a;simp only [Except.error.injEq] at h;subst h;unfold gJ at a;split at a
          ·exact d _ (by simpa using a)
          ·split at a
           ·split at a
            ·exact d _ (by simpa using a)
            ·split at a
             ·split at a
              ·rename_i g;simp only [Except.error.injEq] at a;subst a;exact B g
              ·cases a
             ·cases a
           ·split at a
            ·split at a
             ·rename_i g;simp only [Except.error.injEq] at a;subst a;exact E g
             ·split at a
              ·rename_i g;simp only [Except.error.injEq] at a;subst a;exact u _ (dC _) g
              ·cases a
            ·split at a
             ·rename_i g;simp only [Except.error.injEq] at a;subst a;exact (C _).1 (dC _) g
             ·cases a
         ·cases h
        ·split at h
         ·rename_i a;simp only [Except.error.injEq] at h;subst h;unfold dX at a;split at a
          ·rename_i g;simp only [Except.error.injEq] at a;subst a;exact r g
          ·split at a
           ·rename_i g;simp only [Except.error.injEq] at a;subst a;exact y _ g
           ·cases a
         ·cases h
end Go.Proofs.YthapcchcahnfaaaGreatDoor
