/- Part of the proof that laws.FnSkip returns true for every argument. No conditions. -/
import Derived.Test.YthapcchcahnfaaaGreatDoorS01
set_option linter.all false
set_option maxHeartbeats 8000000
set_option maxRecDepth 100000
namespace Go.Proofs.YthapcchcahnfaaaGreatDoor
open Go
theorem fF {a b:Bs} (h:a <:+ b):a.length≤b.length:=h.length_le
theorem eO (l:Bs):aT l <:+ l:=by
 induction l with
 | nil=>exact List.suffix_refl _
 | cons b r ih=>unfold aT;split;exact ih.trans (pH b r);exact List.suffix_refl _
theorem oO (l:Bs):(aD l).1++(aD l).2=l:=by
 induction l with
 | nil=>rfl
 | cons b r ih=>unfold aD;split<;>simp [ih]
theorem CR (a:Bool) (l:Bs):(bX a l).1++(bX a l).2=l:=by
 induction l with
 | nil=>rfl
 | cons b r ih=>unfold bX;split<;>simp [ih]
theorem uU (l:Bs):(f9 l).1++(f9 l).2=l:=by
 induction l with
 | nil=>rfl
 | cons b r ih=>unfold f9;split<;>simp [ih]
theorem BA (l:Bs):(aD l).2 <:+ l:=⟨_,oO l⟩
theorem CS (a:Bool) (l:Bs):(bX a l).2 <:+ l:=⟨_,CR a l⟩
theorem CT (l:Bs):(f9 l).2 <:+ l:=⟨_,uU l⟩
theorem CU {f:Bool} {l n r:Bs} (h:eT f l=.ok (n,r)):aD l=(n,r)∧r≠[]∧n≠[]∧cX n=true:=by
 unfold eT at h;split at h
 ·cases h
 ·rename_i a;split at h
  ·cases h
  ·rename_i b;split at h
   ·rename_i c;simp only [cD] at h;rw [h] at a b c;exact ⟨h,a,b,c⟩
   ·cases h
theorem tX {f:Bool} {l n r:Bs} (h:eT f l=.ok (n,r)):r <:+ l∧r.length<l.length:=by
 obtain ⟨b,_,c,_⟩:=CU h;have a:=oO l;rw [b] at a;refine ⟨⟨_,a⟩,?_⟩;have:=List.length_pos_iff.2 c;rw [←a];simp;exact this
theorem oP {f:Bool} {l r:Bs} {nm:Bs×Bs} (h:cL f l=.ok (nm,r)):∃ s,eT f l=.ok (s,r)∧¬ 1<dW s∧nm=dX s:=by
 unfold cL at h;split at h
 ·cases h
 ·rename_i s c a;split at h
  ·cases h
  ·rename_i b;simp only [cD,b8] at h;obtain ⟨rfl,rfl⟩:=h;exact ⟨s,a,b,rfl⟩
theorem jK {f:Bool} {l r:Bs} {nm:Bs×Bs} (h:cL f l=.ok (nm,r)):r <:+ l∧r.length<l.length:=by
 obtain ⟨s,a,_⟩:=oP h;exact tX a
theorem wU {fails c:Bool} {pre rest a:Bs} {t:Option Bs} {r:Bs} (h:eM fails c pre rest=.ok (a,t,r)):r <:+ rest:=by
 unfold eM at h;have e:=CS c rest;split at h
 ·cases h
 ·rename_i b d f;rw [f] at e;split at h<;>(simp only [cD,b8] at h;obtain ⟨_,_,rfl⟩:=h)
  ·exact (pH b _).trans e
  ·exact e
theorem lH {fails:Bool} {ents:Option (Bs→Option Bs)} {rest a:Bs} {t:Option Bs} {r:Bs} (h:iG fails ents rest=.ok (a,t,r)):r <:+ rest:=by
 unfold iG at h;split at h
 ·cases h
 ·rename_i c i;split at h
  ·split at h
   ·cases h
   ·rename_i d j;split at h
    ·split at h
     ·cases h
     ·exact ((wU h).trans (pH d _)).trans (pH c _)
    ·exact (wU h).trans (pH c _)
  ·have f:=BA (c::i);split at h
   ·cases h
   ·rename_i b e g;rw [g] at f;split at h<;>(simp only [cD,b8] at h;obtain ⟨_,_,rfl⟩:=h)
    ·exact (pH b _).trans f
    ·exact f
theorem JT (o:cV) (q:Option UInt8) (i:Bool):∀ (n:Nat) (rest:Bs),rest.length≤n→∀ (b0 b1:UInt8) (a d r:Bs),bF o q i rest b0 b1 a=.ok (d,r)→r <:+ rest:=by
 intro n;induction n with
 | zero=>
  intro rest g b0 b1 a d r h;have:rest=[]:=wC (by omega);subst this;unfold bF at h;split at h
  ·cases h
  ·split at h
   ·simp only [cD,b8] at h;rw [←h.2];exact List.suffix_refl _
   ·cases h
 | succ n ih=>
  intro rest g b0 b1 a d r h;cases rest with
  | nil=>
   unfold bF at h;split at h
   ·cases h
   ·split at h
    ·simp only [cD,b8] at h;rw [←h.2];exact List.suffix_refl _
    ·cases h
  | cons b t=>
   have j:t.length≤n:=by simp at g;omega
   have c:=pH b t;unfold bF at h;split at h
   ·split at h
    ·split at h
     ·simp only [cD,b8] at h;rw [←h.2];exact c
     ·cases h
    ·cases h
   ·split at h
    ·split at h
     ·split at h
      ·simp only [cD,b8] at h;rw [←h.2];exact List.suffix_refl _
      ·cases h
     ·cases h
    ·split at h
     ·split at h
      ·simp only [cD,b8] at h;rw [←h.2];exact c
      ·cases h
     ·split at h
      ·split at h
       ·cases h
       ·rename_i f;have e:=lH f;exact ((ih _ (by have:=fF e;omega) _ _ _ _ _ h).trans e).trans c
       ·rename_i f;have e:=lH f;split at h
        ·cases h
        ·exact ((ih _ (by have:=fF e;omega) _ _ _ _ _ h).trans e).trans c
      ·exact (ih _ j _ _ _ _ _ h).trans c
theorem mO {o:cV} {q:Option UInt8} {b:Bool} {rest:Bs} {b0 b1:UInt8} {a d r:Bs} (h:bF o q b rest b0 b1 a=.ok (d,r)):r <:+ rest:=JT o q b rest.length rest (dF _) b0 b1 a d r h
theorem CV {o:cV} {b:UInt8} {t d r:Bs} (e:b≠60) (h:bF o none false (b::t) 0 0 []=.ok (d,r)):r <:+ t:=by
 unfold bF at h;split at h
 ·rename_i a;exact absurd a.2.1 (by decide)
 ·split at h
  ·rename_i a;exact absurd a.1 e
  ·split at h
   ·rename_i a;cases a
   ·split at h
    ·split at h
     ·cases h
     ·rename_i c;exact (mO h).trans (lH c)
     ·rename_i c;split at h
      ·cases h
      ·exact (mO h).trans (lH c)
    ·exact mO h
theorem BB {o:cV} {l d r:Bs} (h:dY o l=.ok (d,r)):r <:+ l:=by
 unfold dY at h;split at h
 ·cases h
 ·rename_i q t;split at h
  ·exact (mO h).trans (pH q _)
  ·split at h
   ·cases h
   ·split at h
    ·cases h
    ·simp only [cD] at h;have:=CT (q::t);rw [h] at this;exact this
theorem nY {o:cV} {l:Bs} {a:cO} {r:Bs} (h:gF o l=.ok (a,r)):r <:+ l∧r.length<l.length:=by
 unfold gF at h;split at h
 ·cases h
 ·rename_i nm k g;obtain ⟨e,n⟩:=jK g;have c:=eO k;split at h
  ·cases h
  ·rename_i b d i;rw [i] at c;split at h
   ·split at h
    ·cases h
    ·rename_i v m j;simp only [cD,b8] at h;obtain ⟨_,rfl⟩:=h;have f:=(((BB j).trans (eO d)).trans (pH b d)).trans c;exact ⟨f.trans e,by have:=fF f;omega⟩
   ·split at h
    ·cases h
    ·simp only [cD,b8] at h;obtain ⟨_,rfl⟩:=h;exact ⟨c.trans e,by have:=fF c;omega⟩
theorem wV {o:cV}:∀ {k:Nat} {rest:Bs} {acc e:List cO} {em:Bool} {r:Bs},dL o k rest acc=.ok (e,em,r)→r <:+ rest∧e.length+r.length+1≤acc.length+rest.length
 | 0,_,_,_,_,_,h=>by unfold dL at h;cases h
 | k+1,rest,acc,e,em,r,h=>by
  unfold dL at h;have d:=eO rest;split at h
  ·cases h
  ·rename_i b p g;rw [g] at d;have f:=fF d;simp only [f5] at f;split at h
   ·split at h
    ·cases h
    ·rename_i c q;split at h
     ·simp only [cD,b8] at h;obtain ⟨rfl,_,rfl⟩:=h;exact ⟨((pH c _).trans (pH b _)).trans d,by simp only [f5] at f;omega⟩
     ·cases h
   ·split at h
    ·simp only [cD,b8] at h;obtain ⟨rfl,_,rfl⟩:=h;exact ⟨(pH b _).trans d,by omega⟩
    ·split at h
     ·cases h
     ·rename_i a s i;obtain ⟨j,l⟩:=nY i;obtain ⟨m,n⟩:=wV h;exact ⟨(m.trans j).trans d,by simp only [fP,f5,List.length_nil] at n l;omega⟩
theorem sK {f:Bool}:∀ {l:Bs} {b0 b1:UInt8} {a d r:Bs},cE f l b0 b1 a=.ok (d,r)→r <:+ l
 | [],_,_,_,_,_,h=>by unfold cE at h;cases h
 | b::l,b0,b1,a,d,r,h=>by
  unfold cE at h;split at h
  ·split at h
   ·simp only [cD,b8] at h;rw [←h.2];exact pH b l
   ·cases h
  ·exact (sK h).trans (pH b l)
theorem zQ {f:Bool}:∀ {l:Bs} {b0:UInt8} {a d r:Bs},jI f l b0 a=.ok (d,r)→r <:+ l
 | [],_,_,_,_,h=>by unfold jI at h;cases h
 | b::l,b0,a,d,r,h=>by
  unfold jI at h;split at h
  ·simp only [cD,b8] at h;rw [←h.2];exact pH b l
  ·exact (zQ h).trans (pH b l)
theorem sL {f:Bool}:∀ {l:Bs} {b0 b1:UInt8} {r:Bs},cY f l b0 b1=.ok r→r <:+ l
 | [],_,_,_,h=>by unfold cY at h;cases h
 | b::l,b0,b1,r,h=>by
  unfold cY at h;split at h
  ·simp only [cD] at h;rw [←h];exact pH b l
  ·exact (sL h).trans (pH b l)
theorem Q0 (f:Bool):∀ n:Nat,(∀ rest:Bs,rest.length≤n→∀ (c:UInt8) (g:Int) (a d r:Bs),eZ f rest c g a=.ok (d,r)→r <:+ rest) ∧
  (∀ rest:Bs,rest.length≤n→∀ (b c:UInt8) (g:Int) (a d r:Bs),gP f b rest c g a=.ok (d,r)→r <:+ rest):=by
 intro n;induction n with
 | zero=>
  have i:∀ rest:Bs,rest.length≤0→∀ (c:UInt8) (g:Int) (a d r:Bs),eZ f rest c g a=.ok (d,r)→r <:+ rest:=by
   intro rest e c g a d r h;have:rest=[]:=wC (by omega);subst this;unfold eZ at h;cases h
  refine ⟨i,?_⟩;intro rest e b c g a d r h;have:rest=[]:=wC (by omega);subst this;unfold gP at h;repeat' split at h
  all_goals first
   | exact i [] (dF _) _ _ _ _ _ h
   | (cases h;done)
   | (rename_i v _;cases v;done)
   | simp_all
 | succ n ih=>
  obtain ⟨w,j⟩:=ih;have i:∀ rest:Bs,rest.length≤n+1→∀ (c:UInt8) (g:Int) (a d r:Bs),eZ f rest c g a=.ok (d,r)→r <:+ rest:=by
   intro rest e c g a d r h;unfold eZ at h;split at h
   ·cases h
   ·rename_i b t;split at h
    ·simp only [cD,b8] at h;rw [←h.2];exact pH b _
    ·exact (j _ (by simp at e;omega) _ _ _ _ _ _ h).trans (pH b _)
  refine ⟨i,?_⟩;intro rest e b c g a d r h;unfold gP at h;split at h
  ·exact i _ e _ _ _ _ _ h
  ·split at h
   ·exact i _ e _ _ _ _ _ h
   ·split at h
    ·exact i _ e _ _ _ _ _ h
    ·split at h
     ·exact i _ e _ _ _ _ _ h
     ·split at h
      ·split at h
       ·cases h
       ·rename_i p x;have k:=pH p x;split at h
        ·split at h
         ·cases h
         ·rename_i q y;have l:=pH q y;split at h
          ·split at h
           ·cases h
           ·rename_i s z;have m:=pH s z;split at h
            ·split at h
             ·cases h
             ·rename_i A u;have o:=sL u;have:=fF o;exact ((((i _ (by simp at e;omega) _ _ _ _ _ h).trans o).trans m).trans l).trans k
            ·exact (((j _ (by simp at e;omega) _ _ _ _ _ _ h).trans m).trans l).trans k
          ·exact ((j _ (by simp at e;omega) _ _ _ _ _ _ h).trans l).trans k
        ·exact (j _ (by simp at e;omega) _ _ _ _ _ _ h).trans k
      ·exact i _ e _ _ _ _ _ h
theorem MK {f:Bool} {rest:Bs} {b:UInt8} {c:Int} {a d r:Bs} (h:eZ f rest b c a=.ok (d,r)):r <:+ rest:=(Q0 f rest.length).1 rest (dF _) _ _ _ _ _ h
theorem ML {o:cV} {l:Bs} {t:aP} {r:Bs} (h:m8 o l=.ok (t,r)):r <:+ l∧∃ nm,t=.fin nm:=by
 unfold m8 at h;split at h
 ·cases h
 ·rename_i nm e c;have a:=eO e;split at h
  ·cases h
  ·rename_i b f d;rw [d] at a;split at h
   ·simp only [cD,b8] at h;obtain ⟨rfl,rfl⟩:=h;exact ⟨((pH b _).trans a).trans (jK c).1,nm,rfl⟩
   ·cases h
theorem ID {o:cV} {l:Bs} {t:aP} {r:Bs} (h:y4 o l=.ok (t,r)):r <:+ l∧∃ a b,t=.proc a b:=by
 unfold y4 at h;split at h
 ·cases h
 ·rename_i f e c;split at h
  ·cases h
  ·rename_i i g d;split at h
   ·cases h
   ·simp only [cD,b8] at h;obtain ⟨rfl,rfl⟩:=h;exact ⟨((zQ d).trans (eO e)).trans (tX c).1,f,i,rfl⟩
theorem wW {f:Bool}:∀ {p l r:Bs},fA f p l=.ok r→r <:+ l
 | [],l,r,h=>by unfold fA at h;simp only [cD] at h;rw [h];exact List.suffix_refl _
 | _::_,[],r,h=>by unfold fA at h;cases h
 | p::ps,b::l,r,h=>by
  unfold fA at h;split at h
  ·exact (wW h).trans (pH b l)
  ·cases h
theorem zT {o:cV} {l:Bs} {t:aP} {r:Bs} (h:jJ o l=.ok (t,r)):r <:+ l∧((∃ d,t=.comment d)∨(∃ d,t=.text d)∨∃ d,t=.dir d):=by
 unfold jJ at h;split at h
 ·cases h
 ·rename_i b j;have a:=pH b j;split at h
  ·split at h
   ·cases h
   ·rename_i c g;have i:=pH c g;split at h
    ·split at h
     ·cases h
     ·rename_i d k f;simp only [cD,b8] at h;obtain ⟨rfl,rfl⟩:=h;exact ⟨((sK f).trans i).trans a,aG ⟨d,rfl⟩⟩
    ·cases h
  ·split at h
   ·split at h
    ·cases h
    ·rename_i g e;split at h
     ·cases h
     ·rename_i d k f;simp only [cD,b8] at h;obtain ⟨rfl,rfl⟩:=h;exact ⟨((mO f).trans (wW e)).trans a,aU (aG ⟨d,rfl⟩)⟩
   ·split at h
    ·cases h
    ·rename_i d g e;simp only [cD,b8] at h;obtain ⟨rfl,rfl⟩:=h;exact ⟨(MK e).trans a,aU (aU ⟨d,rfl⟩)⟩
theorem wX {o:cV} {l:Bs} {nm:Bs×Bs} {a:List cO} {em:Bool} {r:Bs} (h:fB o l=.ok ((nm,a),em,r)):r <:+ l∧a.length+r.length+2≤l.length:=by
 unfold fB at h;split at h
 ·cases h
 ·rename_i f k d;split at h
  ·cases h
  ·rename_i b c m e;simp only [cD,b8] at h;obtain ⟨⟨rfl,rfl⟩,rfl,rfl⟩:=h;obtain ⟨g,n⟩:=jK d;obtain ⟨i,j⟩:=wV e;exact ⟨i.trans g,by simp at j;omega⟩
def aP.wt:aP→Nat
 | .start _ as=>1+as.length
 | _=>1
theorem jZ {o:cV} {s j:St} {t:aP} (h:fK o s=.ok (t,j)) :
  s.ended=false∧j.stk=s.stk∧j.ns=s.ns∧j.next=s.next∧j.rest <:+ s.rest∧(j.ended=true→j.rest=[]) ∧
  ((∃ nm,s.toClose=some nm∧t=.fin nm∧j={ s with toClose:=none }) ∨
   (s.toClose=none∧t.wt+j.rest.length≤s.rest.length∧(j.ended=true→∃ d,t=.text d)∧(∀ nm,j.toClose=some nm→∃ m,t=.start nm m))):=by
 unfold fK at h;split at h
 ·cases h
 ·rename_i z;have e:s.ended=false:=by simpa using z
  refine ⟨e,?_⟩;split at h
  ·rename_i nm i;simp only [cD,b8] at h;obtain ⟨rfl,rfl⟩:=h;exact ⟨rfl,rfl,rfl,List.suffix_refl _,(fun a=>by rw [e] at a;cases a),aG ⟨nm,i,rfl,rfl⟩⟩
  ·rename_i i;split at h
   ·cases h
   ·rename_i b r k;split at h
    ·rename_i w;split at h
     ·cases h
     ·rename_i d p v;simp only [cD,b8] at h;obtain ⟨rfl,rfl⟩:=h;have g:=CV w v;refine ⟨rfl,rfl,rfl,by rw [k];exact g.trans (pH b r),fun a=>by simpa using a,aU ⟨i,?_,fun _=>⟨d,rfl⟩,fun nm f=>by rw [i] at f;cases f⟩⟩;have:=fF g;simp only [aP.wt,f5,k];omega
    ·split at h
     ·cases h
     ·rename_i c p;have n:=(pH c p).trans (pH b (c::p));split at h
      ·split at h
       ·cases h
       ·rename_i u q l;simp only [cD,b8] at h;obtain ⟨rfl,rfl⟩:=h;obtain ⟨g,nm,rfl⟩:=ML l;have:=fF g;exact ⟨rfl,rfl,rfl,by rw [k];exact g.trans n,(fun a=>by rw [e] at a;cases a),aU ⟨i,by simp only [aP.wt,f5,k];omega,(fun a=>by rw [e] at a;cases a),fun nm f=>by rw [i] at f;cases f⟩⟩
      ·split at h
       ·split at h
        ·cases h
        ·rename_i u q l;simp only [cD,b8] at h;obtain ⟨rfl,rfl⟩:=h;obtain ⟨g,x,y,rfl⟩:=ID l;have:=fF g;exact ⟨rfl,rfl,rfl,by rw [k];exact g.trans n,(fun a=>by rw [e] at a;cases a),aU ⟨i,by simp only [aP.wt,f5,k];omega,(fun a=>by rw [e] at a;cases a),fun nm f=>by rw [i] at f;cases f⟩⟩
       ·split at h
        ·split at h
         ·cases h
         ·rename_i u q l;simp only [cD,b8] at h;obtain ⟨rfl,rfl⟩:=h;obtain ⟨g,A⟩:=zT l;have:=fF g;have B:u.wt=1:=by rcases A with ⟨d,rfl⟩|⟨d,rfl⟩|⟨d,rfl⟩<;>rfl
          exact ⟨rfl,rfl,rfl,by rw [k];exact g.trans n,(fun a=>by rw [e] at a;cases a),aU ⟨i,by simp only [B,f5,k];omega,(fun a=>by rw [e] at a;cases a),fun nm f=>by rw [i] at f;cases f⟩⟩
        ·split at h
         ·cases h
         ·rename_i nm m em q l;simp only [cD,b8] at h;obtain ⟨rfl,rfl⟩:=h;obtain ⟨g,D⟩:=wX l;refine ⟨rfl,rfl,rfl,by rw [k];exact g.trans (pH b _),(fun a=>by rw [e] at a;cases a),aU ⟨i,by simp only [aP.wt,f5,k] at D ⊢;omega,(fun a=>by rw [e] at a;cases a),fun C f=>?_⟩⟩;cases em
          ·cases f
          ·simp at f;subst f;exact ⟨m,rfl⟩
inductive jV (fold:Bs→Bs→Bool) (o:cV):St→List (aP×St)→EK→Prop
 | stop {s e}:stepL fold o s=.error e→jV fold o s [] e
 | more {s t s' l e}:stepL fold o s=.ok (t,s')→jV fold o s' l e→jV fold o s ((t,s')::l) e
theorem jV.det {fold:Bs→Bs→Bool} {o:cV} {s:St} {l l':List (aP×St)} {e c:EK} (h:jV fold o s l e) (d:jV fold o s l' c):l=l'∧e=c:=by
 induction h generalizing l' c with
 | stop b=>
  cases d with
  | stop a=>rw [b] at a;cases a;exact ⟨rfl,rfl⟩
  | more a _=>rw [b] at a;cases a
 | more b _ ih=>
  cases d with
  | stop a=>rw [b] at a;cases a
  | more a f=>
   rw [b] at a;simp only [cD,b8] at a;obtain ⟨rfl,rfl⟩:=a;obtain ⟨rfl,rfl⟩:=ih f;exact ⟨rfl,rfl⟩
theorem JU {fold:Bs→Bs→Bool} {o:cV} (h:o.auto=[]) (t:aP) (s:St):jY fold o t s=none:=by
 unfold jY;rw [h];split
 ·rfl
 ·split<;>simp
def MM (o:cV) (s:St):Except EK (aP×St):=
 match fK o s with
 | .error e=>.error (if e=.eof∧s.stk≠[] then .syn else e)
 | .ok (t,s')=>cI o t s'
theorem MN {fold:Bs→Bs→Bool} {o:cV} (h:o.auto=[]) {s:St} (a:s.next=none):jT fold o s=MM o s:=by
 unfold jT MM;rw [a];cases fK o s with
 | error e=>rfl
 | ok p=>
  obtain ⟨t,b⟩:=p;simp only [JU h];split<;>rfl
def wY (o:cV) (s:St):Except EK (aP×St):=if o.raw then fK o s else MM o s
theorem JV {fold:Bs→Bs→Bool} {o:cV} (h:o.auto=[]) {s:St} (a:s.next=none):stepL fold o s=wY o s:=by
 unfold stepL wY;rw [MN h a]
theorem qV:∀ (c:List cO) (a:List iH) (b:Bs→Option Bs),(dH c a b).1.length≤a.length+c.length
 | [],a,b=>by simp [dH]
 | (sp,loc,v)::c,a,b=>by
  unfold dH;by_cases d:sp=bD
  ·have e:¬ (sp=[]∧loc=bD):=by rintro ⟨h,_⟩;rw [d] at h;cases h
   simp only [aY d,aQ e];have:=qV c ({ kind:=1,space:=(b loc).getD [],loc:=loc,ok:=(b loc).isSome }::a) (gO b loc (some v));simp only [f5] at this ⊢;omega
  ·by_cases e:sp=[]∧loc=bD
   ·simp only [aQ d,aY e];have:=qV c ({ kind:=1,space:=(b []).getD [],loc:=[],ok:=(b []).isSome }::a) (gO b [] (some v));simp only [f5] at this ⊢;omega
   ·simp only [aQ d,aQ e];have:=qV c a b;simp only [f5] at this ⊢;omega
theorem zU:∀ (a:List iH) (b:Bs→Option Bs),(fD a b).1.length≤a.length
 | [],_=>by simp [fD]
 | e::a,b=>by
  unfold fD;split
  ·exact dF _
  ·have:=zU a (gO b e.loc (if e.ok then some e.space else none));simp only [f5];omega
theorem sM {o:cV} {t g:aP} {s a:St} (h:cI o t s=.ok (g,a)) :
  a.rest=s.rest∧a.ended=s.ended∧a.next=s.next∧((∃ nm b,t=.start nm b)↔(∃ nm b,g=.start nm b))∧((∃ nm,t=.fin nm)↔∃ nm,g=.fin nm) ∧
  (a.toClose=s.toClose∨(o.strict=false∧∃ nm,t=.fin nm))∧((∃ nm,t=.fin nm)→a.stk.length<s.stk.length)∧((¬ ∃ nm,t=.fin nm)→a.stk.length+1≤s.stk.length+1+t.wt):=by
 unfold cI at h;split at h
 ·rename_i nm b;simp only [cD,b8] at h;obtain ⟨rfl,rfl⟩:=h;refine ⟨rfl,rfl,rfl,⟨fun _=>⟨_,_,rfl⟩,fun _=>⟨_,_,rfl⟩⟩,⟨by simp,by simp⟩,aG rfl,by simp,fun _=>?_⟩;have:=qV b s.stk s.ns;simp only [f5,aP.wt];omega
 ·rename_i nm;unfold lG at h;split at h
  ·cases h
  ·rename_i e f i;split at h
   ·cases h
   ·split at h
    ·split at h
     ·cases h
     ·rename_i d;simp only [cD,b8] at h;obtain ⟨rfl,rfl⟩:=h;refine ⟨rfl,rfl,rfl,⟨by simp,by simp⟩,⟨fun _=>⟨_,rfl⟩,fun _=>⟨_,rfl⟩⟩,aU ⟨by simpa using d,_,rfl⟩,fun _=>by rw [i];simp,fun c=>absurd ⟨_,rfl⟩ c⟩
    ·split at h
     ·cases h
     ·simp only [cD,b8] at h;obtain ⟨rfl,rfl⟩:=h;refine ⟨rfl,rfl,rfl,⟨by simp,by simp⟩,⟨fun _=>⟨_,rfl⟩,fun _=>⟨_,rfl⟩⟩,aG rfl,fun _=>?_,fun c=>absurd ⟨_,rfl⟩ c⟩;have:=zU f s.ns;rw [i];simp only [f5];omega
 ·rename_i l k j;simp only [cD,b8] at h;obtain ⟨rfl,rfl⟩:=h;refine ⟨rfl,rfl,rfl,Iff.rfl,Iff.rfl,aG rfl,fun ⟨nm,c⟩=>absurd c (j nm),fun _=>by omega⟩
def St.mu (s:St):Nat:=8*s.rest.length+4*s.stk.length+(if s.toClose.isSome then 1 else 0)
theorem IE (s:St):(if s.toClose.isSome then 1 else 0)≤1:=by split<;>omega
theorem tY {o:cV} {s b:St} {t:aP} (h:fK o s=.ok (t,b)):b.mu<s.mu∧((¬ ∃ nm,t=.fin nm)→b.mu+4*t.wt<s.mu)∧b.stk=s.stk∧b.rest <:+ s.rest:=by
 obtain ⟨_,c,_,_,e,_,d⟩:=jZ h;refine ⟨?_,?_,c,e⟩
 ·rcases d with ⟨nm,a,_,rfl⟩|⟨a,f,_⟩
  ·unfold St.mu;simp [a]
  ·have:=IE b;have g:1≤t.wt:=by unfold aP.wt;split<;>omega
   unfold St.mu;rw [c,a];simp;omega
 ·intro i;rcases d with ⟨nm,_,a,_⟩|⟨a,f,_⟩
  ·exact absurd ⟨nm,a⟩ i
  ·have:=IE b;have g:1≤t.wt:=by unfold aP.wt;split<;>omega
   unfold St.mu;rw [c,a];simp;omega
theorem MO {o:cV} {s a:St} {t:aP} (h:wY o s=.ok (t,a)):a.mu<s.mu∧a.rest <:+ s.rest∧a.next=s.next:=by
 unfold wY at h;split at h
 ·exact ⟨(tY h).1,(tY h).2.2.2,(jZ h).2.2.2.1⟩
 ·unfold MM at h;split at h
  ·cases h
  ·rename_i l k d;obtain ⟨f,i,q,j⟩:=tY d;obtain ⟨w1,r,m,u,v,b,n,p⟩:=sM h;refine ⟨?_,by rw [w1];exact j,m.trans (jZ d).2.2.2.1⟩;by_cases c:∃ nm,l=.fin nm
   ·have:=n c;have e:=IE a;unfold St.mu at f ⊢;rw [w1];split at f<;>omega
   ·have:=p c;have e:=i c;have g:a.toClose=k.toClose:=by
     rcases b with b|⟨_,b⟩
     ·exact b
     ·exact absurd b c
    unfold St.mu at e ⊢;rw [w1,g];omega
end Go.Proofs.YthapcchcahnfaaaGreatDoor
