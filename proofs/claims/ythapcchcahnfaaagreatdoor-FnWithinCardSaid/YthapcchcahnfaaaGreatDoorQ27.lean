/- Part of the proof that laws.FnWithin returns true for every argument. No conditions. -/
import Derived.Test.YthapcchcahnfaaaGreatDoorQ26
import Derived.Test.YthapcchcahnfaaaGreatDoorQ25
import Derived.Test.YthapcchcahnfaaaGreatDoorQ16
set_option linter.all false
set_option maxHeartbeats 8000000
set_option maxRecDepth 100000
namespace Go.Proofs.YthapcchcahnfaaaGreatDoor
open Go Go.RowKit Go.Proofs.Tryz
theorem GW {o:cP}:∀ (n:Nat) (rest:Bs),rest.length≤n→∀ (b0 b1:UInt8) (a:Bs) {d r:Bs},bD o none false rest b0 b1 a=.ok (d,r)→r=[]∨∃ t,r=60::t:=by
 intro n;induction n with
 | zero=>
  intro rest f b0 b1 a d r h;have:rest=[]:=tZ (by omega);subst this;unfold bD at h;rw [aM (by simp)] at h;split at h
  ·simp only [bT,bP] at h;exact aG h.2.symm
  ·cases h
 | succ n ih=>
  intro rest f b0 b1 a d r h;cases rest with
  | nil=>
   unfold bD at h;rw [aM (by simp)] at h;split at h
   ·simp only [bT,bP] at h;exact aG h.2.symm
   ·cases h
  | cons b t=>
   have i:t.length≤n:=by simp at f;omega
   unfold bD at h;split at h
   ·split at h
    ·rename_i c;cases c
    ·cases h
   ·split at h
    ·rename_i g;rw [aT rfl] at h;split at h
     ·simp only [bT,bP] at h;exact aX ⟨t,by rw [←h.2,g.1]⟩
     ·cases h
    ·split at h
     ·rename_i c;cases c
     ·split at h
      ·split at h
       ·cases h
       ·rename_i e;exact ih _ (by have:=eI (gW e);omega) _ _ _ h
       ·rename_i e;split at h
        ·cases h
        ·exact ih _ (by have:=eI (gW e);omega) _ _ _ h
      ·exact ih _ i _ _ _ h
theorem cD.nb_text {x:Cx} {c:DC} {w:World} {v:DV} {r:Bs} {e:Option EK} {b:Bs} (h:cD x c w v r e b) (f:r=[]∨∃ t,r=60::t):v.nb≠10:=by
 obtain ⟨g,_,a⟩:=h.inp;rcases a with ⟨a,_⟩|⟨b,a,d⟩
 ·rw [a];decide
 ·rcases f with f|⟨t,f⟩
  ·rw [f] at d;cases d
  ·rw [f] at d;simp only [List.cons.injEq] at d;rw [a,←d.1];decide
theorem O7 (x:Cx) (E:x.Ok) (c:DC) (w:World) (v:DV) (s:St) (nm:Bs×Bs) (g:s.ended=false) (a:s.toClose=some nm) (y:CD x c w v s) :
  Calls prog 35 #[bV x] w fun F w'=>∃ t e,F=.returned (.tuple #[t,e])∧cS x c w v s t e w':=by
 obtain ⟨⟨e,b,n,G,A⟩,j,d,o⟩:=y;have H:e=none:=by
  cases e with
  | none=>rfl
  | some k=>have:=A (by simp);rw [a] at this;cases this
 subst H;obtain ⟨N,O⟩:=d nm a;rw [a] at j;have D:c.needClose=true:=j;have L:=n.dec.cell;have M:=n.dec.frozen;have J:v.err=.nilIface:=n.err;have ⟨z,r⟩:=cH E n;have m:=Lh (show eC x.o s=.ok (.fin nm,{ s with toClose:=none }) by unfold eC;rw [aM (by rw [g];simp),a]);have ⟨l,q⟩:=cH g o;clear n G A j d a g E o;refine eT 731 func35 [_] fun f=>?_;simp only [aF];refine vg ?_;intro K hK;refine jV ?_;refine ⟨_,_,rfl,?_⟩;unfold cS;rw [m.o];have u:aK (fun k=>k=x.d) w (w.setCell ⟨x.d,14,none⟩ (.bool false)):=(aK.refl (fun k=>k=x.d) w).setCell (p:=⟨x.d,14,none⟩) (aG rfl) _;have C:bU (w.setCell ⟨x.d,14,none⟩ (.bool false)) x.d { c with needClose:=false } v:=(show aJ w x.d _ _ from r.o.dec).set 14 (.bool false);refine ⟨v,{ c with needClose:=false },(cU.refl x w v).s0 (u.mono (fun i _ I=>aG I)) rfl,rfl,⟨false,c.tcs,c.tcl,rfl⟩,⟨⟨none,b,r.o.turn z.o C u,fun h=>?_,fun _=>rfl⟩,rfl,fun nm h=>(by cases h),q.o⟩,rfl,fun _=>⟨l.o,b,r.o.turn z.o C u⟩⟩;have B:s.ended=true:=h;rw [l.o] at B;cases B
theorem S2 (x:Cx) (o:x.All) (c:DC) (e:iF x c) (k:c.needClose=false) (w:World) (v:DV) (b:Bs) (h:cD x c w v [] none b) :
  Calls prog 35 #[bV x] w fun r w'=>∃ v',cU x w v w' v'∧r=.returned (.tuple #[.nilIface,v'.err])∧iX x c w' v' (mL x.o.fails):=by
 have n:=Lh (q8 x o.toOk c e w v none b h);have s:=h.dec.cell;have u:=h.dec.frozen;have t:v.err=.nilIface:=h.err;clear h o e;refine eT 731 func35 [_] fun f=>?_;simp only [aF];refine vg ?_;intro K hK K hK;refine n.o.mono ?_;rintro y w1 ⟨rfl,p,a,j,d,g,_⟩;have i:=Lh ((cU.refl x w v).s0 g d);have m:=Lh (show iX x c w1 p (mL x.o.fails) from ⟨a.base,a.dec,a.err⟩);obtain ⟨z,A,l⟩:=m.o.err.iface;have q:=Lh l;have s:=a.dec.cell;have u:=a.dec.frozen;clear a j d g n t k;(repeat revert K);refine vS ?_;intro K hK K hK
 ((refine cM [0] fun f=>?_);go_quiet (fail);((repeat revert K);refine vg ?_;intro K hK);refine Qk [2,3] fun f=>?_)
 refine jV ?_;exact ⟨p,i.o.drawn _,by rw [q.o],m.o.drewN _⟩
theorem EG {o:cP} {s:St} (a:s.toClose=none) (b:s.rest=[]):eC o s=.error (mL o.fails):=by
 obtain ⟨rest,c,g,d,e,f⟩:=s;simp only at a b;subst a b;unfold eC;cases c<;>rfl
theorem LN {o:cP} {s:St} (a:s.ended=false) (c:s.toClose=none) {b:UInt8} {r:Bs} (g:b≠60) (f:s.rest=b::r):eC o s=match bD o none false (b::r) 0 0 [] with
  | .error e=>.error e
  | .ok (d,r2)=>.ok (.text d,{ s with rest:=r2,ended:=r2==[] }):=by
 obtain ⟨rest,i,l,h,j,k⟩:=s;simp only at c f a;subst c f a;unfold eC;simp only [rQ,if_false];rw [aT g];cases bD o none false (b::r) 0 0 []<;>rfl
theorem EH (x:Cx) (J:x.All) (M:kL x.W0) (A:3<x.B) (c:DC) (u:iF x c) (C:rX x c) (w:World) (v:DV) (s:St) (E:CD x c w v s) :
  Calls prog 35 #[bV x] w fun F w'=>∃ t e,F=.returned (.tuple #[t,e])∧cS x c w v s t e w':=by
 obtain ⟨⟨e,b,n,Y,Z⟩,S,V,_⟩:=id E;cases e with
 | some k=>
  have a:=Z (by simp);obtain ⟨t1,u1,T⟩:=n.err.iface;have f:=n.fin;rcases f with f|⟨f,z⟩
  ·cases f
  ·refine (WJ x c w v n.dec t1 u1 T).mono ?_;rintro F w' ⟨rfl,k',rfl⟩;refine ⟨_,_,rfl,?_⟩;unfold cS;rw [EG a z];have hk:k=mL x.o.fails:=by simpa using f
   subst hk;exact ⟨v,cU.drewN _,rfl,rfl,iX.drewN ⟨n.base,n.dec,n.err⟩ _,jT.no (JB _)⟩
 | none=>
  have y:s.ended=false:=by
   cases h:s.ended with
   | false=>rfl
   | true=>exact absurd rfl (Y h)
  cases a:s.toClose with
  | some nm=>exact O7 x J.toOk c w v s nm y a E
  | none=>
   have i:c.needClose=false:=by rw [S,a];rfl
   cases D:s.rest with
   | nil=>
    rw [D] at n;refine (S2 x J c u i w v b n).mono ?_;rintro F w' ⟨v',I,rfl,L⟩;refine ⟨_,_,rfl,?_⟩;unfold cS;rw [EG a D];exact ⟨v',I,rfl,rfl,L,jT.no (JB _)⟩
   | cons d r=>
    rw [D] at n;by_cases P:d=60
    ·subst P;exact W1 x J M A c u C i w v s r D y a b n
    ·refine (SJ x J c u C i w v d r b P n).mono ?_;rintro F w' ⟨v',I,H⟩;have j:=LN (o:=x.o) y a P D;cases l:bD x.o none false (d::r) 0 0 [] with
     | error k=>
      rw [l] at H j;obtain ⟨rfl,L⟩:=H;refine ⟨_,_,rfl,?_⟩;unfold cS;rw [j];exact ⟨v',I,rfl,rfl,L,jT.no (fun hh=>yF _ _ _ _ _ (dC _) _ _ _ (by rw [←hh];exact l))⟩
     | ok p=>
      obtain ⟨tx,r'⟩:=p;rw [l] at H j;obtain ⟨g,W,X,U,rfl,q,m,Q,R,B⟩:=H;refine ⟨_,_,rfl,?_⟩;unfold cS;rw [j];refine ⟨v',c,I,rfl,qH.refl c,⟨⟨X,U,q,fun h=>?_,fun _=>a⟩,by rw [i,a];rfl,fun nm h=>(by rw [a] at h;cases h),q.nb_text (GW _ _ (dC _) _ _ _ l)⟩,⟨_,rfl,?_⟩,fun h=>absurd rfl (h tx)⟩
      ·have h9:r'=[]:=by simpa using h
       rw [B h9];simp
      ·have N:=(q.bf.part m Q R).1;rcases q.bf with ⟨G,_⟩|⟨g',cap',arr,G,hg,aC,hl,O,_,_,aA⟩
       ·rw [G] at m;cases m
       ·have h6:=G;rw [G] at m;simp only [Value.slice.injEq,kQ,Addr.mk.injEq] at m;obtain ⟨⟨rfl,_⟩,_,rfl⟩:=m;exact ⟨g',cap',U.length,rfl,h6,N,by omega,O⟩
structure EI (x:Cx) (c:DC) (w:World) (v:DV) (k:Int) (e:List Nat) (w':World) (q:Nat) (a:List Nat):Prop where
 dec:∃ d,bU w' x.d d v∧∃ f g,d={ c with stk:=.pointer (some ⟨q,0,none⟩),free:=f,depth:=g }∧∃ h,iJ w' f h a
 blk:∃ sp loc ok,aJ w' q (jF c.stk k sp loc ok) 95
 mod:aK (fun b=>b=x.d∨b=q) w w'
 fbs:(e=q::a)∨(e=[]∧a=[]∧q=w.heap.size)
theorem iJ.ptr {w:World} {p:Value} {l:List gZ} {a:List Nat} (h:iJ w p l a):(p=.pointer none∧a=[]∧l=[])∨∃ q e l' c,p=.pointer (some ⟨q,0,none⟩)∧a=q::c∧l=e::l':=by
 cases l with
 | nil=>
  cases a with
  | nil=>exact aG ⟨h,rfl,rfl⟩
  | cons b a=>exact h.elim
 | cons e l=>
  cases a with
  | nil=>exact h.elim
  | cons b a=>exact aX ⟨b,e,l,a,h.1,rfl,rfl⟩
noncomputable def O8 (n:Nat):Code:=((Tryz.f78.body).bind (Code.partAt n)).getD .skip
noncomputable def O9 (n:Nat):Code:=((Tryz.f79.body).bind (Code.partAt n)).getD .skip
theorem EJ (x:Cx) (c:DC) (w:World) (v:DV) (l:bU w x.d c v) (k:Int) (O:k=0∨k=1) (q:Nat) (g:q≠x.d) (R:Value) (P:Int) (D i:Bs) (C:Bool) (m:aJ w q (jF R P D i C) 95) (a:Option Addr) (h:c.stk=.pointer a) (Q:Exit→Act→World→Prop)
  (A:∀ f w' y,bU w' x.d y v→(∃ J,y={ c with stk:=.pointer (some ⟨q,0,none⟩),depth:=J })→aJ w' q (jF c.stk k D i C) 95→aK (fun b=>b=x.d∨b=q) w w'→Q .ret (fr 45 f [(4,.pointer (some ⟨q,0,none⟩))]) w') (f:Nat→Value) :
  (O8 5).wp prog Q (fr 45 f [(0,bV x),(1,.int .i64 k),(5,.pointer (some ⟨q,0,none⟩))]) w:=by
 have hc:=l.cell;have hf:=l.frozen;have M:=m.cell;have N:=m.frozen;have d:x.d≠q:=fun e=>g e.symm;have ⟨t,s,u⟩:=lQ l m A;clear l m A;obtain ⟨T,U,V,W,X,Y,j,Z,c9,F,G,H,I⟩:=c;simp only at h;subst h;unfold O8;conv=>arg 2;whnf
 have B:∀ (S:Nat→Prop),S x.d→S q→∀ (n o r:Value),aK S w (((w.setCell ⟨q,0,none⟩ n).setCell ⟨q,1,none⟩ o).setCell ⟨x.d,11,none⟩ r):=fun S L z n o r=>
  (((aK.refl S w).setCell (p:=⟨q,0,none⟩) (aG z) n).setCell (p:=⟨q,1,none⟩) (aG z) o).setCell (p:=⟨x.d,11,none⟩) (aG L) r
 have E:=Lh B;clear B;rcases O with rfl|rfl
 ·refine vg ?_;refine Qk [4] fun f=>?_;refine u.o f _ _ ?_ ⟨IntKind.i64.wrap (j+1),rfl⟩ ?_ ?_
  ·exact ((((show aJ w x.d _ _ from t.o).set_ne (a:=⟨q,0,none⟩) d (.pointer a)).set_ne (a:=⟨q,1,none⟩) d (.int .i64 0)).set 12 (.int .i64 (IntKind.i64.wrap (j+1)))).set 11 (.pointer (some ⟨q,0,none⟩))
  ·exact ((((show aJ w q _ _ from s.o).set 0 (.pointer a)).set 1 (.int .i64 0)).set_ne (a:=⟨x.d,12,none⟩) g (.int .i64 (IntKind.i64.wrap (j+1)))).set_ne (a:=⟨x.d,11,none⟩) g (.pointer (some ⟨q,0,none⟩))
  ·exact ((((aK.refl (fun b=>b=x.d∨b=q) w).setCell (p:=⟨q,0,none⟩) (aG (aX rfl)) _).setCell (p:=⟨q,1,none⟩) (aG (aX rfl)) _).setCell (p:=⟨x.d,12,none⟩) (aG (aG rfl)) _).setCell (p:=⟨x.d,11,none⟩) (aG (aG rfl)) _
 ·refine vg ?_;refine Qk [4] fun f=>?_;refine u.o f _ _ ?_ ⟨j,rfl⟩ ?_ ?_
  ·exact (((show aJ w x.d _ _ from t.o).set_ne (a:=⟨q,0,none⟩) d (.pointer a)).set_ne (a:=⟨q,1,none⟩) d (.int .i64 1)).set 11 (.pointer (some ⟨q,0,none⟩))
  ·exact (((show aJ w q _ _ from s.o).set 0 (.pointer a)).set 1 (.int .i64 1)).set_ne (a:=⟨x.d,11,none⟩) g (.pointer (some ⟨q,0,none⟩))
  ·exact E.o _ (aG rfl) (aX rfl) _ _ _
theorem PA (x:Cx) (c:DC) (w:World) (v:DV) (y:bU w x.d c v) (k:Int) (P:k=0∨k=1) (a:Option Addr) (j:c.stk=.pointer a) (fl:List gZ) (G:List Nat) (d:iJ w c.free fl G) (o:∀ b∈G,b≠x.d) (n:G.Nodup) :
  Calls prog 78 #[bV x,.int .i64 k] w fun en w'=>∃ q J,en=.returned (.pointer (some ⟨q,0,none⟩))∧EI x c w v k G w' q J:=by
 have hc:=y.cell;have hf:=y.frozen;have ⟨R,S⟩:=cH y P;rcases d.ptr with ⟨E,rfl,rfl⟩|⟨q,e,l',bs',E,rfl,rfl⟩
 ·have O:x.d≠w.heap.size:=by have:=aJ.lt y;omega
  clear d o n y P;obtain ⟨T,U,V,W,X,c6,Y,c8,Z,A,B,C,D⟩:=c;simp only at j E;subst j E;refine eT 45 func78 [_,_] fun f=>?_;simp only [aF];refine vT 5 ?_;refine cM [0,1,5] fun f=>?_;refine bB (EJ x _ _ v ((show aJ w x.d _ _ from R.o).alloc _) k S.o w.heap.size (fun e=>O e.symm) _ _ [] [] _ (aJ.new w #[.pointer none,.int .i64 0,aB [],aB [],.bool false] 95) a rfl _ ?_ f) (by kernel_rfl);rintro f w' c' s ⟨I,rfl⟩ r t;refine cX ?_;refine ⟨w.heap.size,[],rfl,⟨_,s,_,I,rfl,[],rfl⟩,⟨[],[],false,r⟩,?_,aX ⟨rfl,rfl,rfl⟩⟩;exact (aH ((Below.refl _ w).alloc (dC _) _) _).trans t (fun i _ hi=>hi)
 ·have u:q≠x.d:=o q (by simp);obtain ⟨hp,nx,ok,H,Q,g⟩:=d;obtain ⟨m,L⟩:∃ m,nx=.pointer m:=by
   rcases g.ptr with ⟨h,_⟩|⟨_,_,_,_,h,_⟩
   ·exact ⟨_,h⟩
   ·exact ⟨_,h⟩
  subst L;have aA:=H.cell;have a0:=H.frozen;have aC:x.d≠q:=fun e=>u e.symm;have ⟨HB,HR⟩:=cH H g;have z:=Lh (show ∀ b∈bs',b≠x.d∧b≠q from fun b l=>⟨o b (by simp [l]),fun e=>by
   rw [List.nodup_cons] at n;exact n.1 (e▸l)⟩)
  clear o n y P hp Q g H;obtain ⟨T,U,V,W,X,c6,Y,c8,Z,A,B,C,D⟩:=c;simp only at j E;subst j E;refine eT 45 func78 [_,_] fun f=>?_;simp only [aF];refine vT 5 ?_;refine cM [0,1,5] fun f=>?_;have N:bU (w.setCell ⟨x.d,13,none⟩ (.pointer m)) x.d ⟨T,U,V,W,X,.pointer a,Y,.pointer m,Z,A,B,C,D⟩ v:=(show aJ w x.d _ _ from R.o).set 13 (.pointer m);have M:aJ (w.setCell ⟨x.d,13,none⟩ (.pointer m)) q _ _:=(show aJ w q _ _ from HB.o).set_ne (a:=⟨x.d,13,none⟩) u (.pointer m);refine bB (EJ x _ _ v N k S.o q u _ _ _ _ _ M a rfl _ ?_ f) (by kernel_rfl);rintro f w' c' s ⟨I,rfl⟩ r t;refine cX ?_;have F:aK (fun b=>b=x.d∨b=q) w w':=((aK.refl (fun b=>b=x.d∨b=q) w).setCell (p:=⟨x.d,13,none⟩) (aG (aG rfl)) (.pointer m)).trans t (fun _ _ h=>h);refine ⟨q,bs',rfl,⟨_,s,.pointer m,I,rfl,l',HR.o.mod F (fun b l=>by
   rintro (h|h)
   ·exact (z.o b l).1 h
   ·exact (z.o b l).2 h)⟩,⟨_,_,_,r⟩,F,aG rfl⟩
theorem S3 (x:Cx) (c:DC) (w:World) (v:DV) (a:bU w x.d c v) (b:c.stk=.pointer none) :
  Calls prog 79 #[bV x] w fun d w'=>d=.returned (.pointer none)∧w'=w:=by
 have e:=a.cell;have g:=a.frozen;clear a;refine eT 41 func79 [_] fun f=>?_;simp only [aF];refine vg ?_;refine cX ?_;exact ⟨rfl,rfl⟩
structure wP (x:Cx) (c:DC) (w:World) (v:DV) (e:gZ) (a:List gZ) (d:List Nat) (j:List gZ) (i:List Nat) (w':World) (q:Nat):Prop where
 dec:∃ f,bU w' x.d f v∧∃ g h,f={ c with stk:=g,free:=.pointer (some ⟨q,0,none⟩),depth:=h }∧iJ w' g a d
 free:iJ w' (.pointer (some ⟨q,0,none⟩)) (e::j) (q::i)
 mod:aK (fun b=>b=x.d∨b=q) w w'
theorem JF (x:Cx) (c:DC) (w:World) (v:DV) (j:bU w x.d c v) (q:Nat) (d:q≠x.d) (i:Option Addr) (n:Int) (r h:Bs) (o:Bool) (k:aJ w q (jF (.pointer i) n r h o) 95) (a:Option Addr) (g:c.free=.pointer a) (Q:Exit→Act→World→Prop)
  (m:∀ f w',bU w' x.d { c with stk:=.pointer i,free:=.pointer (some ⟨q,0,none⟩) } v→aJ w' q (jF (.pointer a) n r h o) 95→aK (fun b=>b=x.d∨b=q) w w'→Q .normal (fr 41 f [(3,.pointer (some ⟨q,0,none⟩))]) w') (f:Nat→Value) :
  (O9 5).wp prog Q (fr 41 f [(0,bV x),(3,.pointer (some ⟨q,0,none⟩))]) w:=by
 have O:=j.cell;have P:=j.frozen;have C:=k.cell;have D:=k.frozen;have l:x.d≠q:=fun e=>d e.symm;have ⟨t,s,u⟩:=lQ j k m;clear j k m;obtain ⟨E,F,G,H,I,J,L,M,N,y,z,A,B⟩:=c;simp only at g;subst g;unfold O9;conv=>arg 2;whnf
 refine vg ?_;refine Qk [3] fun f=>?_;refine u.o f _ ?_ ?_ ?_
 ·exact (((show aJ w x.d _ _ from t.o).set 11 (.pointer i)).set_ne (a:=⟨q,0,none⟩) l (.pointer a)).set 13 (.pointer (some ⟨q,0,none⟩))
 ·exact (((show aJ w q _ _ from s.o).set_ne (a:=⟨x.d,11,none⟩) d (.pointer i)).set 0 (.pointer a)).set_ne (a:=⟨x.d,13,none⟩) d (.pointer (some ⟨q,0,none⟩))
 ·exact (((aK.refl (fun b=>b=x.d∨b=q) w).setCell (p:=⟨x.d,11,none⟩) (aG (aG rfl)) _).setCell (p:=⟨q,0,none⟩) (aG (aX rfl)) _).setCell (p:=⟨x.d,13,none⟩) (aG (aG rfl)) _
theorem PB (x:Cx) (c:DC) (w:World) (v:DV) (T:bU w x.d c v) (q:Nat) (e:gZ) (he:e.kind=0∨e.kind=1) (j:List gZ) (i:List Nat) (R:iJ w c.stk (e::j) (q::i)) (fl:List gZ) (F:List Nat) (d:iJ w c.free fl F)
  (E:∀ b∈(q::i)++F,b≠x.d) (D:((q::i)++F).Nodup) :
  Calls prog 79 #[bV x] w fun en w'=>en=.returned (.pointer (some ⟨q,0,none⟩))∧wP x c w v e j i fl F w' q:=by
 have hc:=T.cell;have hf:=T.frozen;have HD:=Lh T;have l:q≠x.d:=E q (by simp);have a0:x.d≠q:=fun e=>l e.symm;obtain ⟨hp,nx,ok,o,Q,g⟩:=R;obtain ⟨S,aC⟩:∃ S,nx=.pointer S:=by
  rcases g.ptr with ⟨h,_⟩|⟨_,_,_,_,h,_⟩
  ·exact ⟨_,h⟩
  ·exact ⟨_,h⟩
 subst aC;obtain ⟨n,N⟩:∃ n,c.free=.pointer n:=by
  rcases d.ptr with ⟨h,_⟩|⟨_,_,_,_,h,_⟩
  ·exact ⟨_,h⟩
  ·exact ⟨_,h⟩
 have L:=o.cell;have O:=o.frozen;have ⟨HB,HR,s,X⟩:=kY o g d Q;have G:=Lh (show ∀ b,b∈i∨b∈F→¬ (b=x.d∨b=q) from fun b J P=>by
  rw [iZ,List.nodup_cons] at D;rcases P with P|P
  ·exact E b (by rcases J with h|h<;>simp [h]) P
  ·subst P;exact D.1 (by rcases J with h|h<;>simp [h]))
 clear E D T Q g o d;obtain ⟨Y,Z,c3,c4,c5,c6,A,c8,c9,t,u,y,z⟩:=c;simp only at hp N;subst hp N;obtain ⟨ek,H,m,aA⟩:=e;simp only at he
 have r:∀ dp w',bU w' x.d ⟨Y,Z,c3,c4,c5,.pointer S,dp,.pointer (some ⟨q,0,none⟩),c9,t,u,y,z⟩ v→aJ w' q (jF (.pointer n) (ek:Int) H m ok) 95→aK (fun b=>b=x.d∨b=q) w w' →
   wP x ⟨Y,Z,c3,c4,c5,.pointer (some ⟨q,0,none⟩),A,.pointer n,c9,t,u,y,z⟩ w v ⟨ek,H,m,aA⟩ j i fl F w' q:=fun dp w' B C k=>
  ⟨⟨_,B,.pointer S,dp,rfl,HR.o.mod k (fun b o=>G.o b (aG o))⟩,⟨rfl,.pointer n,ok,C,X.o,s.o.mod k (fun b o=>G.o b (aX o))⟩,k⟩
 have HF:=Lh r;clear r;rcases he with rfl|rfl
 ·refine eT 41 func79 [_] fun f=>?_;simp only [aF];refine vT 5 ?_;intro K hK;refine cM [0,3] fun f=>?_;have M:bU (w.setCell ⟨x.d,12,none⟩ (.int .i64 (IntKind.i64.wrap (A-1)))) x.d ⟨Y,Z,c3,c4,c5,.pointer (some ⟨q,0,none⟩),IntKind.i64.wrap (A-1),.pointer n,c9,t,u,y,z⟩ v:=(show aJ w x.d _ _ from HD.o).set 12 (.int .i64 (IntKind.i64.wrap (A-1)));have I:aJ (w.setCell ⟨x.d,12,none⟩ (.int .i64 (IntKind.i64.wrap (A-1)))) q _ _:=(show aJ w q _ _ from HB.o).set_ne (a:=⟨x.d,12,none⟩) l (.int .i64 (IntKind.i64.wrap (A-1)));refine bB (JF x _ _ v M q l _ _ _ _ _ I n rfl _ ?_ f) (by kernel_rfl);intro f w' B C k;have ⟨U,V⟩:=cH B C;have W:=Lh (((aK.refl (fun b=>b=x.d∨b=q) w).setCell (p:=⟨x.d,12,none⟩) (aG (aG rfl)) (.int .i64 (IntKind.i64.wrap (A-1)))).trans k (fun _ _ h=>h));clear B C k M I hc hf L O;revert K;refine vg ?_;refine cX ?_;exact ⟨rfl,HF.o _ _ U.o V.o W.o⟩
 ·refine eT 41 func79 [_] fun f=>?_;simp only [aF];refine vT 5 ?_;intro K hK;refine cM [0,3] fun f=>?_;refine bB (JF x _ _ v HD.o q l _ _ _ _ _ HB.o n rfl _ ?_ f) (by kernel_rfl);intro f w' B C k;have ⟨U,V,W⟩:=lQ B C k;clear B C k hc hf L O;revert K;refine vg ?_;refine cX ?_;exact ⟨rfl,HF.o _ _ U.o V.o W.o⟩
structure eB (x:Cx) (c:DC) (w:World) (v:DV) (m:Nat) (g f:List Nat) (e:DC) (w':World) (d a:List Nat):Prop where
 dec:bU w' x.d e v
 cs:∃ p q h,e={ c with stk:=p,free:=q,depth:=h }
 mod:aK (fun b=>b=x.d∨b∈m::(g++f)) w w'
 sub:∀ b∈m::(d++a),b∈m::(g++f)∨w.heap.size≤b
theorem eB.trans {x:Cx} {c n o:DC} {w w1 t:World} {v:DV} {m:Nat} {s r g d j e:List Nat} (h:eB x c w v m s r n w1 g d) (k:eB x n w1 v m g d o t j e):eB x c w v m s r o t j e:=by
 obtain ⟨p,q,A,rfl⟩:=h.cs;obtain ⟨y,z,l,rfl⟩:=k.cs;refine ⟨k.dec,⟨y,z,l,rfl⟩,h.mod.trans k.mod (fun i B f=>?_),fun b u=>?_⟩
 ·rcases f with f|f
  ·exact aG f
  ·rcases h.sub i f with a|a
   ·exact aX a
   ·omega
 ·rcases k.sub b u with a|a
  ·exact h.sub b a
  ·exact aX (gA h.mod.size a)
theorem iJ.isPtr {w:World} {p:Value} {l:List gZ} {b:List Nat} (h:iJ w p l b):∃ a,p=.pointer a:=by
 rcases h.ptr with ⟨h,_⟩|⟨_,_,_,_,h,_⟩
 ·exact ⟨_,h⟩
 ·exact ⟨_,h⟩
theorem mC.pushed {x:Cx} (hx:x.Ok) {w w1 w':World} {c:DC} {v:DV} {m:Nat} {o r:List Nat} {n:Nat} {H:List gZ} {W:Bs→Option Bs} (h:mC x w c v m o r n H W) (F:∀ k,x.S1 v k→k<w.heap.size) (Z:x.B≤w.heap.size) {k:Int} {q:Nat} {f:List Nat} (J:EI x c w v k r w1 q f)
  (R:aK (fun b=>b=q) w1 w') (e:gZ) (U:Bool) (S:e.kind=1→U=e.ok) (j:aJ w' q (jF c.stk e.kind e.space e.loc U) 95) :
  ∃ M,eB x c w v m o r M w' (q::o) f∧mC x w' M v m (q::o) f n (e::H) W:=by
 obtain ⟨M,hd,⟨nx,dp,rfl,Y,P⟩⟩:=J.dec;have D:=h.nodup;have G:∀ b∈m::(o++r),b≠x.d:=fun b j z=>h.s1 b j (aG (aG z));have T:q∉m::o∧q∉f∧q≠x.d∧x.B≤q∧¬ x.S1 v q∧(q∈r∨w.heap.size≤q)∧(∀ b∈f,b∈r):=by
  rcases J.fbs with rfl|⟨rfl,rfl,rfl⟩
  ·have t:(m::(o++q::f)).Nodup:=D;have u:q∈m::(o++q::f):=by simp
   refine ⟨?_,?_,G q u,h.base q u,h.s1 q u,aG (by simp),fun b j=>by simp [j]⟩
   ·intro g;have B:(m::o++q::f).Nodup:=t;exact (List.nodup_append.1 B).2.2 q g q (by simp) rfl
   ·intro g;have B:(m::o++q::f).Nodup:=t;exact (List.nodup_cons.1 (List.nodup_append.1 B).2.1).1 g
  ·refine ⟨fun g=>?_,by simp,?_,Z,fun g=>Nat.lt_irrefl _ (F _ g),aX (dC _),by simp⟩
   ·have:=h.lt w.heap.size (by simp at g ⊢;exact g);omega
   ·intro z;have:=F x.d (aG (aG rfl));omega
 obtain ⟨L,V,q3,q4,q5,X,A⟩:=T;have l:aK (fun b=>b=x.d∨b=q) w w':=J.mod.trans R (fun i _ Q=>aX Q);have E:∀ b∈m::(o++f),¬ (b=x.d∨b=q):=by
  intro b O g;have p:b=m∨b∈o∨b∈f:=by simpa using O
  have N:b∈m::(o++r):=by
   rcases p with h|h|h
   ·simp [h]
   ·simp [h]
   ·simp [A b h]
  rcases g with g|g
  ·exact G b N g
  ·rw [g] at p;rcases p with h|h|h
   ·exact L (by simp [h])
   ·exact L (by simp [h])
   ·exact V h
 refine ⟨_,⟨aJ.mod hd R (fun z=>q3 z.symm),⟨_,_,_,rfl⟩,?_,?_⟩,⟨⟨rfl,c.stk,U,j,S,h.stk.mod l (fun b j=>E b (by simp [j]))⟩,⟨Y,P.mod R (fun b j z=>V (z▸j))⟩,h.map,h.ns.mod l (E m (by simp)),?_,?_,?_⟩⟩
 ·refine ⟨l.os,l.tape,l.output,l.size,fun i Q hn=>l.block i Q (fun g=>hn ?_)⟩;rcases g with g|g
  ·exact aG g
  ·subst g;rcases X with y|y
   ·exact aX (by simp [y])
   ·omega
 ·intro b j;simp only [l6,List.mem_append,iZ] at j;rcases j with d|d|d|d
  ·exact aG (by simp [d])
  ·subst d;rcases X with y|y
   ·exact aG (by simp [y])
   ·exact aX y
  ·exact aG (by simp [d])
  ·exact aG (by simp [A b d])
 ·have B:(m::o++r).Nodup:=D;have I:=List.nodup_append.1 B;have s:=List.nodup_cons.1 I.1;have C:f.Nodup:=by
   rcases J.fbs with rfl|⟨rfl,rfl,rfl⟩
   ·exact (List.nodup_cons.1 I.2.1).2
   ·simp
  rw [List.nodup_cons];refine ⟨?_,?_⟩
  ·intro g;simp only [iZ,l6,List.mem_append] at g;rcases g with d|d|d
   ·exact L (by simp [d])
   ·exact s.1 d
   ·exact I.2.2 m (by simp) m (A m d) rfl
  ·rw [iZ,List.nodup_cons];refine ⟨?_,?_⟩
   ·intro g;rcases List.mem_append.1 g with d|d
    ·exact L (by simp [d])
    ·exact V d
   ·rw [List.nodup_append];exact ⟨s.2,C,fun a ha b j=>I.2.2 a (by simp [ha]) b (A b j)⟩
 ·intro b j;simp only [l6,List.mem_append,iZ] at j;rcases j with d|d|d|d
  ·exact h.base b (by simp [d])
  ·subst d;exact q4
  ·exact h.base b (by simp [d])
  ·exact h.base b (by simp [A b d])
 ·intro b j;simp only [l6,List.mem_append,iZ] at j;rcases j with d|d|d|d
  ·exact h.s1 b (by simp [d])
  ·subst d;exact q5
  ·exact h.s1 b (by simp [d])
  ·exact h.s1 b (by simp [A b d])
theorem mC.freeNd {x:Cx} {w:World} {c:DC} {v:DV} {m:Nat} {e a:List Nat} {n:Nat} {d:List gZ} {j:Bs→Option Bs} (h:mC x w c v m e a n d j):a.Nodup∧∀ b∈a,b≠x.d:=by
 have f:(m::e++a).Nodup:=h.nodup;exact ⟨(List.nodup_append.1 f).2.1,fun b g i=>h.s1 b (by simp [g]) (aG (aG i))⟩
theorem EL (x:Cx) (F:x.Ok) (c:DC) (w:World) (v:DV) (E:bU w x.d c v) (o:∀ k,x.S1 v k→k<w.heap.size) (C:x.B≤w.heap.size) (m:Nat) (J A:List Nat) (n:Nat) (s:List gZ) (I:Bs→Option Bs) (h:mC x w c v m J A n s I) (d e:Bs) (g:Bool) :
  Calls prog 38 #[bV x,aB d,aB e,.bool g] w fun O w'=>O=.returned (.tuple #[])∧∃ t r i,eB x c w v m J A t w' r i∧mC x w' t v m r i n ({ kind:=1,space:=e,loc:=d,ok:=g }::s) I:=by
 obtain ⟨P,j⟩:=h.free;obtain ⟨a,D⟩:=h.stk.isPtr;have l:=Lh (PA x c w v E 1 (aX rfl) a D P A j h.freeNd.2 h.freeNd.1);have ⟨H,N,z,L⟩:=kY h F o C;clear h F E o C j D;refine eT 25 func38 [_,_,_,_] fun f=>?_;simp only [aF];refine vg ?_;intro K hK K hK;refine l.o.mono ?_;rintro X w1 ⟨q,i,rfl,B⟩;obtain ⟨W,G,V,u⟩:=B.blk;have S:=u.cell;have T:=u.frozen;have ⟨y,M⟩:=cH u B;clear u B l;(repeat revert K);refine vS ?_;refine jN ?_;refine j9 rfl ?_;have U:aK (fun b=>b=q) w1 (((w1.setCell ⟨q,3,none⟩ (aB d)).setCell ⟨q,2,none⟩ (aB e)).setCell ⟨q,4,none⟩ (.bool g)):=(((aK.refl (fun b=>b=q) w1).setCell (p:=⟨q,3,none⟩) (aG rfl) _).setCell (p:=⟨q,2,none⟩) (aG rfl) _).setCell (p:=⟨q,4,none⟩) (aG rfl) _;obtain ⟨t,Q,R⟩:=H.o.pushed N.o z.o L.o M.o U { kind:=1,space:=e,loc:=d,ok:=g } g (fun _=>rfl) (((y.o.set 3 (aB d)).set 2 (aB e)).set 4 (.bool g));exact ⟨rfl,t,_,_,Q,R⟩
theorem zT (x:Cx) (S:x.Ok) (c:DC) (w:World) (v:DV) (R:bU w x.d c v) (E:∀ k,x.S1 v k→k<w.heap.size) (P:x.B≤w.heap.size) (m:Nat) (O I:List Nat) (n:Nat) (r:List gZ) (M:Bs→Option Bs) (h:mC x w c v m O I n r M) (nm:Bs×Bs) :
  Calls prog 39 #[bV x,.agg #[aB nm.1,aB nm.2]] w fun Y w'=>Y=.returned (.tuple #[])∧∃ G F j,eB x c w v m O I G w' F j∧mC x w' G v m F j n ({ kind:=0,space:=nm.1,loc:=nm.2,ok:=false }::r) M:=by
 have o:aK (fun _=>False) w (w.alloc (.cells #[aB nm.1,aB nm.2] 89)):=aH ((Below.refl _ w).alloc (dC _) _) _;have u:bU (w.alloc (.cells #[aB nm.1,aB nm.2] 89)) x.d c v:=(show aJ w x.d _ _ from R).alloc _;have d:mC x (w.alloc (.cells #[aB nm.1,aB nm.2] 89)) c v m O I n r M:=h.mod o (fun _ _=>id) h.s1;obtain ⟨Z,y⟩:=d.free;obtain ⟨a,Q⟩:=d.stk.isPtr;have D:=Lh (PA x c _ v u 0 (aG rfl) a Q Z I y d.freeNd.2 d.freeNd.1);have A:=aJ.new w #[aB nm.1,aB nm.2] 89;have ⟨L,H,U,X,t,V⟩:=iD A d h S E P;have i:=Lh o;clear h d S R u E P y Q A o;refine eT 11 func39 [_,_] fun f=>?_;simp only [aF];refine vg ?_;intro K hK K hK;refine D.o.mono ?_;rintro e1 w1 ⟨q,j,rfl,C⟩;obtain ⟨a2,T,N,s⟩:=C.blk;have aC:=s.cell;have a1:=s.frozen;have ⟨J,W⟩:=cH s C;have B:w.heap.size≠x.d∧w.heap.size≠q:=by
  refine ⟨fun e=>?_,fun e=>?_⟩
  ·have:=t.o x.d (aG (aG rfl));omega
  ·rcases C.fbs with l|⟨_,_,l⟩
   ·have:=U.o.lt q (by rw [l];simp);omega
   ·simp at l;omega
 have g:=L.o.mod C.mod (fun z=>by rcases z with z|z;exact B.1 z;exact B.2 z);have aA:=g.cell;have a0:=g.frozen;clear s C D g;(repeat revert K);refine vS ?_;refine jN ?_;refine j9 rfl ?_;have hm:aK (fun b=>b=q) w1 ((w1.setCell ⟨q,2,none⟩ (aB nm.1)).setCell ⟨q,3,none⟩ (aB nm.2)):=((aK.refl (fun b=>b=q) w1).setCell (p:=⟨q,2,none⟩) (aG rfl) _).setCell (p:=⟨q,3,none⟩) (aG rfl) _;obtain ⟨G,d,h2⟩:=H.o.pushed X.o (fun k hk=>rS (t.o k hk) i.o.size) (gA V.o i.o.size) W.o hm { kind:=0,space:=nm.1,loc:=nm.2,ok:=false } N (fun h=>by cases h) ((J.o.set 2 (aB nm.1)).set 3 (aB nm.2));refine ⟨rfl,G,_,_,⟨d.dec,d.cs,(i.o.mono (fun _ _ h=>h.elim)).trans d.mod (fun _ _ h=>h),fun b s=>?_⟩,h2⟩;rcases d.sub b s with l|l
 ·exact aG l
 ·exact aX (gA i.o.size l)
theorem kT.drewN {w:World} {m n:Nat} {a:Bs→Option Bs} (h:kT w m n a) (k:Nat):kT (w.drewN k) m n a:=h.mod (S:=fun _=>False) (aH (show Below w.heap.size w (w.drewN k) from ⟨rfl,rfl,rfl,dC _,fun _ _=>rfl⟩) _) id
abbrev jJ:Bs:=[120,109,108,110,115]
theorem PD {cs:Array Value} {o:Nat} {v:Value} (h:cs[o]?=some v):cs.setIfInBounds o v=cs:=by
 apply Array.ext
 ·simp
 ·intro i b a;rw [Array.getElem_setIfInBounds a];split
  ·rename_i e;subst e;rw [Array.getElem?_eq_getElem a] at h;simpa using h.symm
  ·rfl
def kM (w:World) (g:Nat) (cs:Array Value) (t:TypeId) (o:Nat) (s:Bs) (w':World):Prop:=
 aK (fun k=>k=g) w w'∧aJ w' g (cs.setIfInBounds o (aB s)) t∧w'.heap.size=w.heap.size
theorem kM.keep {w:World} {g:Nat} {cs:Array Value} {t:TypeId} {o:Nat} {s:Bs} (a:aJ w g cs t) (h:cs[o]?=some (aB s)) (k:Nat):kM w g cs t o s (w.drewN k):=
 ⟨(aK.refl _ w).drewN k,by rw [PD h];exact a,rfl⟩
theorem kM.one {w:World} {g:Nat} {cs:Array Value} {t:TypeId} {o:Nat} (s:Bs) (a:aJ w g cs t) (k:Nat):kM w g cs t o s ((w.drewN k).setCell ⟨g,o,none⟩ (aB s)):=
 ⟨((aK.refl (fun k=>k=g) w).drewN k).setCell (p:=⟨g,o,none⟩) (aG rfl) _,(show aJ (w.drewN k) g cs t from a).set o (aB s),by simp [World.setCell]⟩
theorem qJ (x:Cx) (c:DC) (w:World) (v:DV) (L:bU w x.d c v) (m n:Nat) (d:Bs→Option Bs) (B:c.ns=.map (some m)) (H:kT w m n d) (I:c.space=⟨x.o.space.toArray⟩)
  (g:Nat) (cs:Array Value) (t:TypeId) (E:aJ w g cs t) (P:g≠x.d) (Q:g≠m) (o:Nat) (nm:Bs×Bs) (O:cs[o]?=some (aB nm.1)) (R:cs[o+1]?=some (aB nm.2)) (hl:nm.1.length≤100000000000) (r:Bool) :
  Calls prog 40 #[bV x,.pointer (some ⟨g,o,none⟩),.bool r] w fun Z w'=>Z=.returned (.tuple #[])∧kM w g cs t o (cQ x.o d nm r).1 w':=by
 have aA:x.d≠g:=fun e=>P e.symm;have hc:=L.cell;have hf:=L.frozen;have F:w.cell? ⟨g,o,none⟩=some (aB nm.1):=(E.cell o).trans O;have G:w.cell? ⟨g,o+1,none⟩=some (aB nm.2):=(E.cell (o+1)).trans R;have aC:=E.frozen;have ⟨z,HD,D,J⟩:=kY E L H O;obtain ⟨c1,c2,c3,c4,c5,c6,c7,c8,c9,V,W,X,Y⟩:=c;simp only at B I;subst B I;clear E L H O R;obtain ⟨q,j⟩:=nm;simp only at F G hl;by_cases e1:q=jJ
 ·subst e1;refine eT 75 func40 [_,_,_] fun f=>?_;simp only [aF];refine vg ?_;intro K hK;refine j9 rfl ?_;exact ⟨rfl,kM.keep z.o J.o 0⟩
 obtain ⟨a1,a2⟩:=rO e1;by_cases e2:q=[]
 ·subst e2;cases r with
  | false=>
   refine eT 75 func40 [_,_,_] fun f=>?_;simp only [aF];refine vg ?_;intro K hK;refine j9 rfl ?_;exact ⟨rfl,kM.keep z.o J.o 0⟩
  | true=>
   by_cases e3:j=jJ
   ·subst e3;refine eT 75 func40 [_,_,_] fun f=>?_;simp only [aF];refine vg ?_;intro K hK;refine j9 rfl ?_;exact ⟨rfl,kM.keep z.o J.o 0⟩
   obtain ⟨b1,U⟩:=rO e3;have a:=fun k=>(D.o.drewN k).look [] (by simp);have A:=Lh (show cQ x.o d ([],j) true=(match d [] with|some v=>(v,j)|none=>(x.o.space,j)) by
    unfold cQ;rw [aM (show ¬ (([]:Bs)=bE) by decide),aM (by simp),aM (by rintro ⟨_,_,h⟩;exact e3 h)];simp only [show ¬ (([]:Bs)=mM) by decide,if_false];cases d []<;>rfl)
   clear e1 e3;cases l:d [] with
   | some u=>
    rw [l] at a;simp only [Option.isSome_some,Option.getD_some] at a;have b:=Lh (show (cQ x.o d ([],j) true).1=u by rw [A.o,l]);refine eT 75 func40 [_,_,_] fun f=>?_;simp only [aF];refine vg ?_;intro K hK;refine cM [0,1] fun f=>?_;go_quiet (fail);revert K;refine vg ?_;refine jN ?_;refine j9 rfl ?_;rw [b.o];exact ⟨rfl,kM.one u z.o _⟩
   | none=>
    rw [l] at a;simp only [Option.isSome_none,Option.getD_none] at a;have b:=Lh (show (cQ x.o d ([],j) true).1=x.o.space by rw [A.o,l]);refine eT 75 func40 [_,_,_] fun f=>?_;simp only [aF];refine vg ?_;intro K hK;refine cM [0,1] fun f=>?_;go_quiet (fail);revert K;refine vg ?_;refine jN ?_;refine j9 rfl ?_;rw [b.o];exact ⟨rfl,kM.one x.o.space z.o _⟩
 obtain ⟨b1,U⟩:=rO e2;by_cases e3:q=uO
 ·subst e3;have y:aJ (w.setCell ⟨g,o,none⟩ (aB dQ)) g (cs.setIfInBounds o (aB dQ)) t:=(show aJ w g cs t from z.o).set o (aB dQ);have C:kT (w.setCell ⟨g,o,none⟩ (aB dQ)) m n d:=D.o.mod (S:=fun k=>k=g) ((aK.refl (fun k=>k=g) w).setCell (p:=⟨g,o,none⟩) (aG rfl) _) (fun e=>Q e.symm);have a:=fun k=>(C.drewN k).look dQ (by decide);have T:=Lh y;have N:=Lh (show ∀ s k,kM w g cs t o s (((w.setCell ⟨g,o,none⟩ (aB dQ)).drewN k).setCell ⟨g,o,none⟩ (aB s)) from fun s k=>by
   refine ⟨(((aK.refl (fun i=>i=g) w).setCell (p:=⟨g,o,none⟩) (aG rfl) _).drewN k).setCell (p:=⟨g,o,none⟩) (aG rfl) _,?_,by simp [World.setCell]⟩;have:=(show aJ ((w.setCell ⟨g,o,none⟩ (aB dQ)).drewN k) g _ t from y).set o (aB s);simpa using this)
  have M:=Lh (show ∀ k,kM w g cs t o dQ ((w.setCell ⟨g,o,none⟩ (aB dQ)).drewN k) from fun k=>
   ⟨((aK.refl (fun i=>i=g) w).setCell (p:=⟨g,o,none⟩) (aG rfl) _).drewN k,y,by simp [World.setCell]⟩)
  have A:=Lh (show cQ x.o d (uO,j) r=(match d dQ with|some v=>(v,j)|none=>(dQ,j)) by
   unfold cQ;rw [aM (show ¬ (uO=bE) by decide),aM (by simp),aM (by rintro ⟨h,_⟩;exact h rfl)];simp only [show uO=mM from rfl,if_true,show ¬ (dQ=[]) by decide,if_false];cases d dQ<;>rfl)
  clear e1 e2 y C;cases l:d dQ with
  | some u=>
   rw [l] at a;simp only [Option.isSome_some,Option.getD_some,aB,dQ] at a;have b:=Lh (show (cQ x.o d (uO,j) r).1=u by rw [A.o,l]);cases r
   all_goals
    refine eT 75 func40 [_,_,_] fun f=>?_;simp only [aF];refine vg ?_;intro K hK;refine cM [0,1] fun f=>?_;go_quiet (fail);revert K;refine vg ?_;refine jN ?_;refine j9 rfl ?_;rw [b.o];exact ⟨rfl,N.o u _⟩
  | none=>
   rw [l] at a;simp only [Option.isSome_none,Option.getD_none,aB,dQ] at a;have b:=Lh (show (cQ x.o d (uO,j) r).1=dQ by rw [A.o,l]);cases r
   all_goals
    refine eT 75 func40 [_,_,_] fun f=>?_;simp only [aF];refine vg ?_;intro K hK;refine cM [0,1] fun f=>?_;go_quiet (fail);revert K;refine vg ?_;refine jN ?_;refine j9 rfl ?_;rw [b.o];exact ⟨rfl,M.o _⟩
 ·obtain ⟨d1,d2⟩:=rO e3;have a:=fun k=>(D.o.drewN k).look q (by unfold maxLen;omega);have A:=Lh (show cQ x.o d (q,j) r=(match d q with|some v=>(v,j)|none=>(q,j)) by
   unfold cQ;rw [aM (show ¬ (q=bE) from e1),aM (by rintro ⟨h,_⟩;exact e2 h),aM (by rintro ⟨_,h,_⟩;exact e2 h)];simp only [show ¬ (q=mM) from e3,if_false,e2];cases d q<;>rfl)
  clear e1 e2 e3;cases l:d q with
  | some u=>
   rw [l] at a;simp only [Option.isSome_some,Option.getD_some] at a;have b:=Lh (show (cQ x.o d (q,j) r).1=u by rw [A.o,l]);cases r
   all_goals
    refine eT 75 func40 [_,_,_] fun f=>?_;simp only [aF];refine vg ?_;intro K hK;refine cM [0,1] fun f=>?_;go_quiet (fail);revert K;refine vg ?_;refine jN ?_;refine j9 rfl ?_;rw [b.o];exact ⟨rfl,kM.one u z.o _⟩
  | none=>
   rw [l] at a;simp only [Option.isSome_none,Option.getD_none] at a;have b:=Lh (show (cQ x.o d (q,j) r).1=q by rw [A.o,l]);cases r
   all_goals
    refine eT 75 func40 [_,_,_] fun f=>?_;simp only [aF];refine vg ?_;intro K hK;refine cM [0,1] fun f=>?_;go_quiet (fail);revert K;refine vg ?_;refine jN ?_;refine j9 rfl ?_;rw [b.o];exact ⟨rfl,kM.keep z.o J.o _⟩
theorem mC.popped {x:Cx} {w w':World} {c:DC} {v:DV} {m q:Nat} {g f:List Nat} {n:Nat} {e:gZ} {i:List gZ} {u:Bs→Option Bs} (h:mC x w c v m (q::g) f n (e::i) u) {z:List gZ} (k:wP x c w v e i g z f w' q) :
  ∃ l,eB x c w v m (q::g) f l w' g (q::f)∧mC x w' l v m g (q::f) n i u∧(∃ y,l.free=.pointer (some ⟨q,0,none⟩)∧∃ o,aJ w' q (jF y e.kind e.space e.loc o) 95∧(e.kind=1→o=e.ok)):=by
 obtain ⟨l,B,y,D,rfl,r⟩:=k.dec;have d:∀ b,b∈m::(g++q::f)↔b∈m::((q::g)++f):=by
  intro b;simp only [l6,List.mem_append,iZ];constructor
  ·rintro (h|h|h|h)
   ·exact aG h
   ·exact aX (aX (aG h))
   ·exact aX (aG h)
   ·exact aX (aX (aX h))
  ·rintro (h|h|h|h)
   ·exact aG h
   ·exact aX (aX (aG h))
   ·exact aX (aG h)
   ·exact aX (aX (aX h))
 have s:∀ b∈m::((q::g)++f),b≠x.d:=fun b a j=>h.s1 b a (aG (aG j));have p:¬ (m=x.d∨m=q):=by
  rintro (j|j)
  ·exact s m (by simp) j
  ·have:=(List.nodup_cons.1 h.nodup).1;exact this (by simp [j])
 refine ⟨_,⟨B,⟨_,_,_,rfl⟩,k.mod.mono (fun b _ a=>?_),fun b a=>aG ((d b).1 a)⟩,⟨r,⟨_,k.free⟩,h.map,h.ns.mod k.mod p,?_,fun b a=>h.base b ((d b).1 a),fun b a=>h.s1 b ((d b).1 a)⟩,?_⟩
 ·rcases a with a|a
  ·exact aG a
  ·exact aX (by simp [a])
 ·have A:(m::(q::g++f)).Nodup:=h.nodup;have:(m::(q::g++f)).Perm (m::(g++q::f)):=by
   refine List.Perm.cons m ?_;exact (List.perm_middle).symm
  exact this.nodup_iff.1 A
 ·obtain ⟨_,t,o,a,C,_⟩:=k.free;exact ⟨t,rfl,o,a,C⟩
theorem mC.turned {x:Cx} {w w':World} {c:DC} {v:DV} {m:Nat} {i g:List Nat} {n l:Nat} {f:List gZ} {s e:Bs→Option Bs} (h:mC x w c v m i g n f s) (j:aK (fun k=>k=m) w w') (r:kT w' m l e):mC x w' c v m i g l f e:=by
 obtain ⟨o,q⟩:=h.free;have d:∀ b∈i++g,¬ b=m:=fun b a p=>(List.nodup_cons.1 h.nodup).1 (p▸a);exact ⟨h.stk.mod j (fun b a=>d b (by simp [a])),⟨o,q.mod j (fun b a=>d b (by simp [a]))⟩,h.map,r,h.nodup,h.base,h.s1⟩
noncomputable def PE (n:Nat):Code:=((Tryz.f41.body).bind (Code.partAt n)).getD .skip
def kN (a:List gZ):Prop:=∀ e∈a,(e.kind=0∨e.kind=1)∧e.space.length≤100000000000∧e.loc.length≤100000000000
def Y9 (x:Cx) (c0:DC) (w0:World) (v:DV) (m:Nat) (h e:List Nat) (o:Nat) (d:List gZ) (g:Bs→Option Bs) (k:Nat) (a:Act) (w:World):Prop:=
 ∃ f c l i n b j,a=fr 179 f [(0,bV x)]∧eB x c0 w0 v m h e c w l i∧mC x w c v m l i n b j∧k=b.length∧fD d g=fD b j∧n+b.length≤o+d.length∧kN b
theorem eB.refl {x:Cx} {c:DC} {w:World} {v:DV} (e:bU w x.d c v) (m:Nat) (b a:List Nat):eB x c w v m b a c w b a:=
 ⟨e,⟨c.stk,c.free,c.depth,rfl⟩,aK.refl _ _,fun _ d=>aG d⟩
theorem W2 (x:Cx) (hx:x.Ok) (c0:DC) (w0:World) (v:DV) (hd:bU w0 x.d c0 v) (m:Nat) (B r:List Nat) (M:Nat) (a:List gZ) (o:Bs→Option Bs) (h:mC x w0 c0 v m B r M a o) (t:kN a) (hn:M+a.length≤100000000000) (Q:Exit→Act→World→Prop)
  (hQ:∀ f c w sb l n,eB x c0 w0 v m B r c w sb l→mC x w c v m sb l n (fD a o).1 (fD a o).2→n+(fD a o).1.length≤M+a.length→Q .normal (fr 179 f [(0,bV x)]) w) (f:Nat→Value) (c1:Code) (bC:c1=.loop (PE 21)) :
  c1.wp prog (Exit.inBlock 1 Q) (fr 179 f [(0,bV x)]) w0:=by
 subst bC;have ⟨HX,HQ,HN⟩:=lQ hx hQ hn;refine wp_loop_ghost_k (Y9 x c0 w0 v m B r M a o) a.length ⟨f,c0,B,r,M,a,o,rfl,eB.refl hd m B r,h,rfl,rfl,dC _,t⟩ ?_;clear h t hd hx hQ hn;rintro k _ w ⟨f,c,sb,l,n,b6,Z,rfl,hs,D,hk,hu,hn,t⟩ J K2 hJ a3;have ⟨HJ,aC,HS,HO,HK,HU⟩:=iD hJ a3 hs D hk hu;have ⟨p,E⟩:=cH hn t;have hc:=hs.dec.cell;have hf:=hs.dec.frozen;have HD:=Lh hs.dec;clear hJ a3 hs hk hu hn t;unfold PE;conv=>arg 2;whnf
 rcases D.stk.ptr with ⟨h1,h2,Y⟩|⟨q,e,stk',sb',h1,h2,Y⟩
 ·subst h2 Y;clear D;refine vg ?_;intro K hK;refine Qk [0] fun f=>?_;have i:=HU.o;rw [show fD [] Z=([],Z) from rfl] at i;refine HQ.o f c w [] l n HS.o ?_ ?_
  ·rw [i];exact HO.o
  ·rw [i];exact p.o
 ·subst h2 Y;have b2:=D.stk;obtain ⟨_,nx,ok,C,a8,u⟩:=b2;have U:=C.cell;have b0:=C.frozen;have d:=(E.o e (by simp)).1;rcases d with d|d
  ·have i:=HU.o;have A:fD (e::stk') Z=(e::stk',Z):=by unfold fD;rw [aT d]
   rw [A] at i;have a1:=Lh i;clear D C a8 u i A;rw [d] at U;refine vg ?_;intro K hK;refine Qk [0] fun f=>?_;refine HQ.o f c w (q::sb') l n HS.o ?_ ?_
   ·rw [a1.o];exact HO.o
   ·rw [a1.o];exact p.o
  ·have A:fD (e::stk') Z=fD stk' (gT Z e.loc (if e.ok then some e.space else none)):=by
    conv=>lhs;unfold fD
    rw [aM (by rw [d];decide)]
   have a2:=Lh (HU.o.trans A);obtain ⟨fl,a5⟩:=D.free;have Y:(m::((q::sb')++l)).Nodup:=D.nodup;have L:=Lh (PB x c w v HD.o q e (aX d) stk' sb' D.stk fl l a5 (fun b C he=>D.s1 b (List.mem_cons_of_mem _ C) (aG (aG he))) (List.nodup_cons.1 Y).2);have bA:=Lh d;rw [d] at U;clear D C a8 u A a5 Y;refine vg ?_;intro K hK K hK;refine L.o.mono ?_;rintro e1 w1 ⟨rfl,hp⟩;obtain ⟨c1,y,X,b3,a6,b4,T,a7⟩:=HO.o.popped hp;have a9:=a7 bA.o;subst a9;have hc:=y.dec.cell;have hf:=y.dec.frozen;have U:=T.cell;have b0:=T.frozen;have I:=X.map;have ⟨a0,j⟩:=cH y X;have aA:=Lh y.dec;have N:=Lh (E.o e (by simp)).2;obtain ⟨p1,p2,p3,p4,p5,p6,p7,p8,p9,F,G,H,b5⟩:=c1;simp only at I;subst I;clear hp y X T a7 L a6;cases a4:e.ok with
   | true=>
    (repeat revert K);refine vS ?_;(refine lI [0,0,0,1,0,0,0,0,1,0,0,0,0,1,2] [0,1,2,3,4,5,6,7,8,9,10,11,12,13,14] ?_;refine vP ?_;repeat with_reducible intro nq)
    refine bN rfl rfl (fun nq K hK=>?_);obtain ⟨w2,b1,s,z⟩:=(j.o.ns.drewN nq).store (by have h9:n+(e::stk').length≤M+a.length:=p.o;have:=HN.o;unfold maxLen;rw [gF] at h9;omega) e.loc e.space (by have:=N.o.2;unfold maxLen;omega) (by have:=N.o.1;unfold maxLen;omega);have ⟨O,P⟩:=cH s z;clear s z;go_simp;refine hK.out _ _ ?_;clear hK K;(refine vP ?_;repeat with_reducible intro nq)
    (try refine vg ?_)
    have g:aK (fun k=>k=m) w1 (w2.drewN nq):=((show aK (fun k=>k=m) w1 (w1.drewN _) from (aK.refl _ w1).drewN _).trans (lB P.o) (fun _ _ h=>h)).drewN nq;have R:=j.o.turned g (O.o.drewN nq);have W:x.d≠m:=fun e=>j.o.s1 m (by simp) (aG (aG e.symm));have S:eB x ⟨p1,p2,p3,p4,p5,p6,p7,p8,p9,F,G,H,.map (some m)⟩ w1 v m sb' (q::l) ⟨p1,p2,p3,p4,p5,p6,p7,p8,p9,F,G,H,.map (some m)⟩ (w2.drewN nq) sb' (q::l):=⟨aJ.mod aA.o g W,⟨_,_,_,rfl⟩,g.mono (fun _ _ h=>aX (by simp [h])),fun _ C=>aG C⟩;refine Kk [0] fun f=>?_;refine aC.o _ _ ⟨stk'.length,by rw [HK.o];simp,HJ.o _ _ _ ⟨f,_,sb',q::l,n+1,stk',_,rfl,HS.o.trans (a0.o.trans S),R,rfl,?_,?_,fun e' V=>E.o e' (by simp [V])⟩⟩
    ·rw [a2.o,a4];rfl
    ·have h9:n+(e::stk').length≤M+a.length:=p.o;rw [gF] at h9;omega
   | false=>
    (repeat revert K);refine vS ?_;(refine lI [0,0,0,1,0,0,0,0,1,2] [0,1,2,3,4,5,6,7,8,9] ?_;refine vP ?_;repeat with_reducible intro nq)
    refine bN rfl rfl (fun nq K hK=>?_);obtain ⟨w2,b1,s,z⟩:=(j.o.ns.drewN nq).drop e.loc (by have:=N.o.2;unfold maxLen;omega) 0;have ⟨O,P⟩:=cH s z;clear s z;go_simp;refine hK.out _ _ ?_;clear hK K;(refine vP ?_;repeat with_reducible intro nq)
    (try refine vg ?_)
    have g:aK (fun k=>k=m) w1 (w2.drewN nq):=((show aK (fun k=>k=m) w1 (w1.drewN _) from (aK.refl _ w1).drewN _).trans (lB P.o) (fun _ _ h=>h)).drewN nq;have R:=j.o.turned g (O.o.drewN nq);have W:x.d≠m:=fun e=>j.o.s1 m (by simp) (aG (aG e.symm));have S:eB x ⟨p1,p2,p3,p4,p5,p6,p7,p8,p9,F,G,H,.map (some m)⟩ w1 v m sb' (q::l) ⟨p1,p2,p3,p4,p5,p6,p7,p8,p9,F,G,H,.map (some m)⟩ (w2.drewN nq) sb' (q::l):=⟨aJ.mod aA.o g W,⟨_,_,_,rfl⟩,g.mono (fun _ _ h=>aX (by simp [h])),fun _ C=>aG C⟩;refine Kk [0] fun f=>?_;refine aC.o _ _ ⟨stk'.length,by rw [HK.o];simp,HJ.o _ _ _ ⟨f,_,sb',q::l,n,stk',_,rfl,HS.o.trans (a0.o.trans S),R,rfl,?_,?_,fun e' V=>E.o e' (by simp [V])⟩⟩
    ·rw [a2.o,a4];rfl
    ·have h9:n+(e::stk').length≤M+a.length:=p.o;rw [gF] at h9;omega
def qK (c a:DC):Prop:=∃ p q d b e f,a={ c with stk:=p,free:=q,depth:=d,needClose:=b,tcs:=e,tcl:=f }
theorem qK.trans {a b c:DC} (h:qK a b) (k:qK b c):qK a c:=by
 obtain ⟨_,_,_,_,_,_,rfl⟩:=h;obtain ⟨p,q,d,b,e,f,rfl⟩:=k;exact ⟨p,q,d,b,e,f,rfl⟩
theorem qH.toD {c a:DC} (h:qH c a):qK c a:=by
 obtain ⟨b,p,q,rfl⟩:=h;exact ⟨c.stk,c.free,c.depth,b,p,q,rfl⟩
theorem eB.same {x:Cx} {c:DC} {w:World} {v:DV} {m:Nat} {g f:List Nat} {d:DC} {w':World} {b a:List Nat} (h:eB x c w v m g f d w' b a):qK c d:=by
 obtain ⟨p,q,e,rfl⟩:=h.cs;exact ⟨p,q,e,c.needClose,c.tcs,c.tcl,rfl⟩
theorem cD.own {x:Cx} (g:x.Ok) {c m:DC} {w w':World} {v:DV} {rest:Bs} {e:Option EK} {d:Bs} (h:cD x c w v rest e d) (o:bU w' x.d m v) {S:Nat→Prop} (i:aK S w w') (n:∀ k,S k→k=x.d∨(¬ x.S1 v k∧x.B≤k)):cD x m w' v rest e d:=by
 obtain ⟨r,l,q⟩:=h.inp;have f:∀ k,x.S1 v k→k≠x.d→¬ S k:=fun k b j p=>by
  rcases n k p with a|a
  ·exact j a
  ·exact a.1 b
 exact ⟨aK.below h.base h.base.size i (fun k b=>by rcases n k b with a|a;exact a▸g.d;exact a.2),o,
  ⟨r,l.mod i (f _ (aG (aX (aG rfl))) (fun e=>g.ne1 e.symm)) (f _ (aG (aX (aX (aG rfl)))) (fun e=>g.ne2 e.symm)) (f _ (aG (aX (aX (aX rfl)))) (fun e=>g.ne3 e.symm)),q⟩,
  h.pos,h.err,h.fin,h.bf.mod i (fun k b=>f k (aX b) (fun e=>h.bf.notS0 k b (aG e)))⟩
theorem OL.drewN {x:Cx} {c:DC} {w:World} {v:DV} {w':World} {a:Addr} (h:OL x c w v w' a) (k:Nat):OL x c w v (w'.drewN k) a:=
 ⟨h.dec,show iX x c ((w'.setCell ⟨x.d,20,none⟩ (wI a)).drewN k) { v with err:=wI a } .syn from h.err.drewN k,show cU x w v ((w'.setCell ⟨x.d,20,none⟩ (wI a)).drewN k) { v with err:=wI a } from h.stp.drawn k⟩
theorem yK {x:Cx} {v:DV} {m:Nat} {d c:List Nat} {f:Nat} {w e w':World} (h:aK (fun b=>b=x.d∨b∈m::(d++c)) w e) (k:aK (x.S1 v) e w'):aK (fun b=>x.S1 v b∨b∈m::(d++c)∨b=f) w w':=
 (h.mono (fun i _ a=>by
  rcases a with a|a
  ·exact aG (aG (aG a))
  ·exact aX (aG a))).trans (k.mono (fun _ _ a=>aG a)) (fun _ _ a=>a)
def gO (x:Cx) (c:DC) (w:World) (v:DV) (s:St) (nm:Bs×Bs) (m:Nat) (h g:List Nat) (n:Nat) (i:Nat) (j:Ending) (w':World):Prop:=
 match lS x.o nm s with
 | .error k=>j=.returned (.bool false)∧∃ d v',iX x d w' v' k∧aK (fun b=>x.S1 v b∨b∈m::(h++g)∨b=i) w w'
 | .ok (tk,s')=>∃ a,tk=.fin a∧j=.returned (.bool true)∧∃ d f e l,CD x d w' v s'∧mC x w' d v m f e l s'.stk s'.ns∧aJ w' i #[aB a.1,aB a.2] 110∧qK c d ∧
   aK (fun b=>b=x.d∨b∈m::(h++g)∨b=i) w w'∧(∀ b∈m::(f++e),b∈m::(h++g)∨w.heap.size≤b)∧l+s'.stk.length≤n+s.stk.length
structure PF (x:Cx) (c:DC) (w:World) (v:DV) (s:St) (m:Nat) (g f:List Nat) (n:Nat) (d:Nat) (nm:Bs×Bs):Prop where
 fit:(s.ended=false∧∃ b,cD x c w v s.rest none b)∨∃ e a,s.stk=e::a∧e.kind=0∧nm=(e.space,e.loc)
 strict:c.strict=x.o.strict
 rts:CD x c w v s
 own:mC x w c v m g f n s.stk s.ns
 sok:kN s.stk
 bnd:n+s.stk.length≤100000000000
 sp:c.space=⟨x.o.space.toArray⟩
 tok:aJ w d #[aB nm.1,aB nm.2] 110
 tS:¬ x.S1 v d
 tO:d∉m::(g++f)
 tB:x.B≤d
 l1:nm.1.length≤100000000000
 l2:nm.2.length≤100000000000
theorem PG (x:Cx) (y:x.All) (c:DC) (w:World) (v:DV) (s:St) (m:Nat) (z u:List Nat) (n:Nat) (q:Nat) (nm:Bs×Bs) (h:PF x c w v s m z u n q nm) (o:s.stk=[]) :
  Calls prog 41 #[bV x,.pointer (some ⟨q,0,none⟩)] w fun C w'=>gO x c w v s nm m z u n q C w':=by
 obtain ⟨M,b0,i,_,_⟩:=h.rts.rd;have a:c.stk=.pointer none:=by
  have:=h.own.stk;rw [o] at this;rcases this.ptr with ⟨g,_⟩|⟨_,_,_,_,_,_,g⟩
  ·exact g
  ·cases g
 have b:=Lh (S3 x c w v i.dec a);have k:=h.tok.cell;have l:=h.tok.frozen;have ⟨B,t⟩:=cH i y;have A:=Lh (show lS x.o nm s=.error .syn by unfold lS;rw [o]);have F:=h.l2;have G:¬ 9223372036854775807<25+nm.2.length:=by omega
 have H:¬ 9223372036854775807<25+nm.2.length+1:=by omega
 have I:¬ 9223372036854775807<25+(nm.2.length+1):=by omega
 have J:=Lh h.tok;clear i y h F o a;refine eT 179 func41 [_,_] fun f=>?_;simp only [aF];refine vg ?_;intro K hK K hK;refine b.o.mono ?_;rintro N w1 ⟨rfl,rfl⟩;clear b;have j:Below w1.heap.size w1 (w1.alloc (.cells #[aB nm.1,aB nm.2] 89)):=(Below.refl _ w1).alloc (dC _) _;(repeat revert K);refine vS ?_;intro K hK K hK K hK;have e:=Lh (fun p=>gL t.o.toOk (B.o.below t.o.toOk j) p);refine (e.o _).mono ?_;rintro O P ⟨L,rfl,d⟩;have D:=d.dec.cell;have E:=d.dec.frozen;have r:=Lh d;clear d k l;(repeat revert K);refine vS ?_;intro K hK;refine cX ?_;unfold gO;rw [A.o];exact ⟨rfl,c,_,r.o.err,yK (aH ((Below.refl _ w1).alloc (dC _) _) _) r.o.stp.mod⟩
theorem S4 (x:Cx) (hx:x.All) (c:DC) (w:World) (v:DV) (s:St) (m:Nat) (sb r:List Nat) (n:Nat) (F:Nat) (nm:Bs×Bs) (h:PF x c w v s m sb r n F nm) (e:gZ) (g:List gZ) (hs:s.stk=e::g) (d:e.kind=1) :
  Calls prog 41 #[bV x,.pointer (some ⟨F,0,none⟩)] w fun en w'=>gO x c w v s nm m sb r n F en w':=by
 obtain ⟨e0,b0,S,_,_⟩:=h.rts.rd;have j:=h.own;rw [hs] at j;obtain ⟨q,G,l',a,t,R,H⟩:∃ q G l' a,c.stk=.pointer (some ⟨q,0,none⟩)∧sb=q::a∧e::g=G::l':=by
  rcases j.stk.ptr with ⟨_,_,t⟩|⟨q,G,l',a,t,R,H⟩
  ·cases t
  ·exact ⟨q,G,l',a,t,R,H⟩
 obtain ⟨rfl,rfl⟩:=List.cons.inj H;subst R;obtain ⟨fl,C⟩:=j.free;have E:(m::((q::a)++r)).Nodup:=j.nodup;have l:=Lh (PB x c w v S.dec q e (aX d) g a j.stk fl r C (fun b hb B=>j.s1 b (List.mem_cons_of_mem _ hb) (aG (aG B))) (List.nodup_cons.1 E).2);have HP:=Lh (show lS x.o nm s=.error .syn by unfold lS;rw [hs];simp only;rw [aT (by rw [d];decide)]);have hl:=h.l2;have a1:¬ 9223372036854775807<25+nm.2.length:=by omega
 have a2:¬ 9223372036854775807<25+nm.2.length+1:=by omega
 have HT:=Lh h.tok;have ⟨HR,Q,L⟩:=lQ S hx j;have O:=Lh h.tO;have P:=Lh h.tS;have J:=Lh d;clear S hx h hl hs H C E j d t;refine eT 179 func41 [_,_] fun f=>?_;simp only [aF];refine vg ?_;intro K hK K hK;refine l.o.mono ?_;rintro e1 w1 ⟨rfl,Z⟩;obtain ⟨c1,i,Y,a3,D,a4,z,W⟩:=L.o.popped Z;have M:=Lh i.mod;have X:¬ (F=x.d∨F=q):=by
  rintro (B|B)
  ·exact P.o (aG (aG B))
  ·exact O.o (by simp [B])
 have p:=HT.o.mod Z.mod X;have T:=p.cell;have V:=p.frozen;have u:=HR.o.own Q.o.toOk i.dec i.mod (fun k d=>by
  rcases d with d|d
  ·exact aG d
  ·exact aX ⟨L.o.s1 k d,L.o.base k d⟩)
 have y:Below w1.heap.size w1 (w1.alloc (.cells #[aB nm.1,aB nm.2] 89)):=(Below.refl _ w1).alloc (dC _) _;have o:=z.alloc (.cells #[aB nm.1,aB nm.2] 89);have A:=o.cell;have U:=o.frozen;rw [J.o] at A;have N:=Lh (fun aA=>gL Q.o.toOk (u.below Q.o.toOk y) aA);clear Z i Y z W l D p u y o;(repeat revert K);refine vS ?_;intro K hK K hK K hK;refine (N.o _).mono ?_;rintro e3 w3 ⟨a9,rfl,I⟩;have aC:=I.dec.cell;have a0:=I.dec.frozen;have HS:=Lh I;clear I T V A U;(repeat revert K);refine vS ?_;intro K hK;refine cX ?_;unfold gO;rw [HP.o];exact ⟨rfl,c1,_,HS.o.err,yK (M.o.trans (aH ((Below.refl _ w1).alloc (dC _) _) (fun b=>b=x.d∨b∈m::((q::a)++r))) (fun _ _ h=>h)) HS.o.stp.mod⟩
structure Bi (x:Cx) (c:DC) (w:World) (v:DV) (s:St) (m q:Nat) (a g:List Nat) (n:Nat) (j:Nat) (nm:Bs×Bs) (e:gZ) (d:List gZ) (f:DC) (w1:World) (i:Value) (ok:Bool) (h:Option EK):Prop where
 st:eB x c w v m (q::a) g f w1 a (q::g)
 own:mC x w1 f v m a (q::g) n d s.ns
 blk:aJ w1 q (jF i 0 e.space e.loc ok) 95
 rd:∃ b,cD x f w1 v s.rest h b
 tok:aJ w1 j #[aB nm.1,aB nm.2] 110
theorem LO (x:Cx) (hx:x.All) (c:DC) (w:World) (v:DV) (s:St) (m:Nat) (sb A:List Nat) (n:Nat) (j:Nat) (nm:Bs×Bs) (h:PF x c w v s m sb A n j nm) (e:gZ) (i:List gZ) (hs:s.stk=e::i) (z:e.kind=0) :
  Calls prog 41 #[bV x,.pointer (some ⟨j,0,none⟩)] w fun en w'=>gO x c w v s nm m sb A n j en w':=by
 obtain ⟨Z,b0,hR,f9,gB,g0⟩:∃ Z b0,cD x c w v s.rest Z b0∧(s.ended=true→Z≠none)∧(Z≠none→s.toClose=none)∧((s.ended=false∧Z=none)∨nm=(e.space,e.loc)):=by
  rcases h.fit with ⟨h1,b,h2⟩|⟨e',stk2,h1,_,h3⟩
  ·exact ⟨none,b,h2,fun E=>(by rw [h1] at E;cases E),fun E=>absurd rfl E,aG ⟨h1,rfl⟩⟩
  ·obtain ⟨Z,b0,hR,h4,h5⟩:=h.rts.rd;rw [hs] at h1;obtain ⟨rfl,_⟩:=List.cons.inj h1;exact ⟨Z,b0,hR,h4,h5,aX h3⟩
 have ho:=h.own;rw [hs] at ho;obtain ⟨q,e',l',g,h1,h2,h3⟩:∃ q e' l' g,c.stk=.pointer (some ⟨q,0,none⟩)∧sb=q::g∧e::i=e'::l':=by
  rcases ho.stk.ptr with ⟨_,_,h1⟩|⟨q,e',l',g,h1,h2,h3⟩
  ·cases h1
  ·exact ⟨q,e',l',g,h1,h2,h3⟩
 obtain ⟨rfl,rfl⟩:=List.cons.inj h3;subst h2;obtain ⟨fl,hD⟩:=ho.free;have hL:(m::((q::g)++A)).Nodup:=ho.nodup;have d3:=Lh (PB x c w v hR.dec q e (aG z) i g ho.stk fl A hD (fun b d t=>ho.s1 b (List.mem_cons_of_mem _ d) (aG (aG t))) (List.nodup_cons.1 hL).2);have f0:=Lh (show ∀ w1,wP x c w v e i g fl A w1 q→∃ C nx ok,Bi x c w v s m q g A n j nm e i C w1 nx ok Z from fun w1 hp=>by
  obtain ⟨C,e6,i3,e7,j0,e8,g7,j4⟩:=ho.popped hp;have i2:¬ (j=x.d∨j=q):=by
   rintro (t|t)
   ·exact h.tS (aG (aG t))
   ·exact h.tO (by simp [t])
  rw [z] at g7;exact ⟨C,e7,e8,e6,i3,g7,⟨b0,hR.own hx.toOk e6.dec e6.mod (fun k z=>by
   rcases z with z|z
   ·exact aG z
   ·exact aX ⟨ho.s1 k z,ho.base k z⟩)⟩,h.tok.mod hp.mod i2⟩)
 have ⟨r,HX,HO,HS⟩:=kY h hx ho hs;have HE:=Lh (show e.space.length≤100000000000∧e.loc.length≤100000000000 from (h.sok e (by rw [hs];simp)).2);have d6:=Lh (And.intro f9 (And.intro gB g0));have b2:=Lh z;have b4:=Lh (show j≠q∧j≠x.d∧j≠m∧(∀ b∈m::(g++q::A),b≠j) from by
  have e2:=h.tO;refine ⟨fun t=>e2 (by simp [t]),fun t=>h.tS (aG (aG t)),fun t=>e2 (by simp [t]),fun b d t=>e2 ?_⟩;subst t;simp only [l6,List.mem_append,iZ] at d ⊢;rcases d with h|h|h|h
  ·exact aG h
  ·exact aX (aX (aG h))
  ·exact aX (aG h)
  ·exact aX (aX (aX h)))
 clear hR hx h hs h3 hD hL ho z f9 gB g0 h1;refine eT 179 func41 [_,_] fun f=>?_;simp only [aF];refine vg ?_;intro K hK K hK;refine d3.o.mono ?_;rintro e1 w1 ⟨rfl,hp⟩;obtain ⟨C,e7,e8,hI⟩:=f0.o w1 hp;have HI:=Lh hI;obtain ⟨b1,g5⟩:=hI.rd;have i9:=hI.tok.cell;have j1:=hI.tok.frozen;have e4:Below w1.heap.size w1 (w1.alloc (.cells #[aB nm.1,aB nm.2] 89)):=(Below.refl _ w1).alloc (dC _) _;have T:aK (fun _=>False) w1 (w1.alloc (.cells #[aB nm.1,aB nm.2] 89)):=aH e4 _;have O:=Lh T;have h6:=g5.below HX.o.toOk e4;have f4:=Lh h6;have hJ:=aJ.new w1 #[aB nm.1,aB nm.2] 89;have c7:=hI.blk.mod T id;have hP:=hI.tok.mod T id;have ⟨f3,f7⟩:=cH c7 hP;have D:=c7.cell;have Y:=c7.frozen;have d5:=Lh hI.st;have b3:=Lh hI.own;clear hp d3 f0 g5 e4 T hI c7 hP;(repeat revert K);refine vS ?_;intro K hK K hK;refine cM [0,1,5,6] fun f=>?_;have d2:w1.heap.size≠q∧w1.heap.size≠j∧w1.heap.size≠x.d:=by
  have h1:=HI.o.blk.lt;have h2:=HI.o.tok.lt;have h3:=aJ.lt HI.o.st.dec;exact ⟨by omega,by omega,by omega⟩
 have f2:=Lh (show ∀ b∈m::(g++q::A),b≠w1.heap.size from fun b d t=>by have:=b3.o.lt b d;omega);have f1:=Lh hJ;obtain ⟨B,I⟩:=cR (w1.alloc (.cells #[aB nm.1,aB nm.2] 89));obtain ⟨nb,V⟩:=cR w1.heap.size;have g3:mC x B C v m g (q::A) n i s.ns:=by rw [I];exact b3.o.mod O.o (fun _ _=>id) b3.o.s1
 have g6:eB x c w v m (q::g) A C B g (q::A):=by
  rw [I];exact d5.o.trans ⟨aJ.mod d5.o.dec O.o id,⟨_,_,_,rfl⟩,O.o.mono (fun _ _ h=>h.elim),fun _ d=>aG d⟩
 have b6:cD x C B v s.rest Z b1:=by rw [I];exact f4.o
 have b5:aJ B q (jF e7 0 e.space e.loc e8) 95:=by rw [I];exact f3.o
 have b7:aJ B j #[aB nm.1,aB nm.2] 110:=by rw [I];exact f7.o
 have d8:aJ B nb #[aB nm.1,aB nm.2] 89:=by rw [I,V];exact f1.o
 rw [show w1.alloc (.cells #[.string ⟨nm.1.toArray⟩,.string ⟨nm.2.toArray⟩] 89)=B from I.symm,←V];rw [←V] at d2 f2;clear D Y hJ f1 f3 f7 f4 d5 b3 O HI I V;have ⟨J,u,L,j2,f6⟩:=pI g3 g6 b6 b5 b7;have b8:=b6.dec.cell;have c2:=b6.dec.frozen;have D:=b5.cell;have Y:=b5.frozen;have cT:=b7.cell;have c4:=b7.frozen;have X:=d8.cell;have c3:=d8.frozen;obtain ⟨n1,n2,n3⟩:=d2;obtain ⟨t1,t2,t3,_⟩:=b4.o;have j5:q≠x.d:=fun t=>HO.o.s1 q (by simp) (aG (aG t));clear g3 g6 b6 b5 b7 d8;have c8:=Lh (show C.strict=x.o.strict from by
  obtain ⟨p,q2,dp,t⟩:=u.o.cs;rw [t];exact r.o.strict)
 have c5:=r.o.l2;have a0:=r.o.l1;have c6:=HE.o.1;have bA:=HE.o.2;have d7:=Lh (fun k i7=>gL HX.o.toOk (L.o.drewN HX.o.toOk k) i7);by_cases l:e.loc=nm.2
 ·rw [l] at D bA;by_cases F:e.space=nm.1
  ·have y:=Lh (show lS x.o nm s=.ok (.fin (cQ x.o s.ns nm true),{ s with stk:=(fD i s.ns).1,ns:=(fD i s.ns).2 }) by
    unfold lS;rw [HS.o];simp only;rw [aM (by rw [b2.o];simp),aM (by rw [l];simp),aM (by rw [F];simp)])
   have hT:=Lh (fun k=>qJ x C (B.drewN k) v (L.o.drewN HX.o.toOk k).dec m n s.ns J.o.map (J.o.ns.drewN k) (by
    obtain ⟨p,q2,dp,t⟩:=u.o.cs;rw [t];exact r.o.sp) j #[aB nm.1,aB nm.2] 110 f6.o t2 t3 0 nm rfl rfl a0 true)
   rw [F] at D;clear l F a0 c5 c6 bA;go_quiet (fail);(repeat revert K);refine vg ?_;intro K hK K hK;refine cM [0,1,5,6] fun f=>?_;have j3:=Lh (L.o.drewN HX.o.toOk nq);have R:∀ o,(B.drewN nq).cell? ⟨q,o,none⟩=_:=D;have Q:∀ o,(B.drewN nq).cell? ⟨nb,o,none⟩=_:=X;go_quiet (fail);(repeat revert K);refine vg ?_;intro K hK K hK;refine (hT.o _).mono ?_;rintro e5 w5 ⟨rfl,hE,g8,i6⟩;have U:aK (fun k=>k=j) B w5:=((aK.refl _ B).drewN _).trans hE (fun _ _ h=>h);have g4:mC x w5 C v m g (q::A) n i s.ns:=J.o.mod U (fun b d t=>b4.o.2.2.2 b d t) J.o.s1;have hB:bU w5 x.d C v:=aJ.mod L.o.dec U (fun t=>t2 t.symm);have d4:kN i:=fun e' i0=>r.o.sok e' (by rw [HS.o];simp [i0]);have dI:n+i.length≤100000000000:=by have:=r.o.bnd;rw [HS.o] at this;simp only [gF] at this;omega
   have ⟨aA,hV⟩:=cH U g8;clear b8 c2 D Y cT c4 X c3 R Q hE i6 U g8 hT;(repeat revert K);refine vS ?_;intro K hK;refine cM [0] fun f=>?_;refine W2 x HX.o.toOk C w5 v hB m g (q::A) n i s.ns g4 d4 dI _ ?_ f _ (by kernel_rfl);intro f c9 w9 i8 h0 n9 hN hM hG;have ⟨aC,hX,hW⟩:=lQ hN hM hG;clear hN hM hG hB d4 dI g4;revert K;refine vg ?_;refine cX ?_;unfold gO;rw [y.o];have bC:=aC.o.mod;have hQ:aJ w9 j _ _:=hV.o.mod bC (fun E=>by
    rcases E with E|E
    ·exact t2 E
    ·exact b4.o.2.2.2 j E rfl)
   have G:∀ b,b∈m::(g++q::A)→b∈m::((q::g)++A):=by
    intro b d;simp only [l6,List.mem_append,iZ] at d ⊢;rcases d with h|h|h|h
    ·exact aG h
    ·exact aX (aX (aG h))
    ·exact aX (aG h)
    ·exact aX (aX (aX h))
   have N:aK (fun b=>b=x.d∨b∈m::((q::g)++A)∨b=j) w w9:=by
    refine (u.o.mod.mono (fun b _ d=>?_)).trans ((aA.o.mono (S':=fun b=>b=x.d∨b∈m::((q::g)++A)∨b=j) (fun b _ d=>aX (aX d))).trans (bC.mono (S':=fun b=>b=x.d∨b∈m::((q::g)++A)∨b=j) (fun b _ d=>?_)) (fun _ _ h=>h)) (fun _ _ h=>h)
    ·rcases d with d|d
     ·exact aG d
     ·exact aX (aG d)
    ·rcases d with d|d
     ·exact aG d
     ·exact aX (aG (G b d))
   have d9:cD x c9 w9 v s.rest Z b1:=L.o.own HX.o.toOk aC.o.dec (S:=fun b=>b=x.d∨b∈m::(g++q::A)∨b=j) ((aA.o.mono (fun b _ d=>aX (aX d))).trans (bC.mono (S':=fun b=>b=x.d∨b∈m::(g++q::A)∨b=j) (fun b _ d=>by
    rcases d with d|d
    ·exact aG d
    ·exact aX (aG d))) (fun _ _ h=>h)) (fun k z=>by
    rcases z with z|z|z
    ·exact aG z
    ·exact aX ⟨HO.o.s1 k (G k z),HO.o.base k (G k z)⟩
    ·exact aX (z▸⟨r.o.tS,r.o.tB⟩))
   have i4:qK c c9:=u.o.same.trans aC.o.same;obtain ⟨j6,j7,j8,dT⟩:=u.o.cs;obtain ⟨k0,k1,k2,d0⟩:=aC.o.cs;refine ⟨cQ x.o s.ns nm true,rfl,rfl,c9,i8,h0,n9,⟨⟨Z,b1,d9,d6.o.1,d6.o.2.1⟩,?_,?_,r.o.rts.nb⟩,hX.o,(by rw [GB];exact hQ),i4,N,fun b d=>?_,?_⟩
   ·rw [d0,dT];exact r.o.rts.nc
   ·intro hU W;rw [d0,dT];exact r.o.rts.tc hU W
   ·rcases aC.o.sub b d with h9|h9
    ·rcases u.o.sub b h9 with h8|h8
     ·exact aG h8
     ·exact aX h8
    ·exact aX (gA (gA u.o.mod.size aA.o.size) h9)
   ·have:=hW.o;rw [HS.o];simp only [gF];omega
  ·obtain ⟨g1,g2⟩:=rO F;have y:=Lh (show lS x.o nm s=.error .syn by
    unfold lS;rw [HS.o];simp only;rw [aM (by rw [b2.o];simp),aM (by rw [l];simp),aT F])
   have a1:¬ 9223372036854775807<9+nm.2.length:=by omega
   have a2:¬ 9223372036854775807<9+nm.2.length+11:=by omega
   have a3:¬ 9223372036854775807<9+nm.2.length+11+e.space.length:=by omega
   have a4:¬ 9223372036854775807<9+nm.2.length+11+e.space.length+13:=by omega
   have a5:¬ 9223372036854775807<9+nm.2.length+11+e.space.length+13+nm.2.length:=by omega
   have a6:¬ 9223372036854775807<9+nm.2.length+11+e.space.length+13+nm.2.length+11:=by omega
   have a7:¬ 9223372036854775807<9+nm.2.length+11+e.space.length+13+nm.2.length+11+nm.1.length:=by omega
   have a8:¬ 9223372036854775807<9+nm.2.length+11+e.space.length+13+nm.2.length+11+2:=by omega
   clear l F a0 c5 c6 bA;go_quiet (fail);(repeat revert K);refine vg ?_;intro K hK K hK;refine cM [0,1,5,6] fun f=>?_;have R:∀ o,(B.drewN nq).cell? ⟨q,o,none⟩=_:=D;have Q:∀ o,(B.drewN nq).cell? ⟨nb,o,none⟩=_:=X;go_quiet (fail);have b9:nm.1=[]∨((nm.1==[])=false∧(nm.1 != [])=true):=by
    by_cases h:nm.1=[]
    ·exact aG h
    ·exact aX (rO h)
   rcases b9 with b9|⟨b9,hA⟩
   ·have hA:(nm.1==[])=true:=by rw [b9];rfl
    (repeat revert K);refine vg ?_;intro K hK K hK;refine cM [0,1,5,6,7] fun f=>?_;(refine lI [0,0,0,0,0,0,1,0,0,0,0,0,0,1,0,0,0,1,0,0,0,0,2,0,0,2] [0,1,2,3,4,5,6,7,8,9,10,11,12,13,14,15,16,17,18,19,20,21,22,23,24,25] ?_;refine vP ?_;repeat with_reducible intro nq)
    refine bN rfl rfl (fun nq K hK=>?_);go_simp;refine (d7.o _ _).mono ?_;rintro e3 w3 ⟨a9,rfl,P⟩;have g9:=P.dec.cell;have hC:=P.dec.frozen;have H:=Lh P;clear P b8 c2 D Y cT c4 X c3 R Q;go_simp;refine hK.out _ _ ?_;clear hK K;(refine vP ?_;repeat with_reducible intro nq)
    (repeat revert K);refine vg ?_;intro K hK;refine cX ?_;unfold gO;rw [y.o];exact ⟨rfl,C,_,(H.o.drewN _).err.drewN _,yK u.o.mod (((aK.refl (x.S1 v) B).drewN _).trans ((H.o.drewN _).stp.drawn _).mod (fun _ _ h=>h))⟩
   ·(repeat revert K);refine vg ?_;intro K hK K hK;refine cM [0,1,5,6,7] fun f=>?_;(refine lI [0,0,0,0,0,0,1,0,0,0,0,0,0,1,0,0,0,1,0,0,0,0,2,0,0,2] [0,1,2,3,4,5,6,7,8,9,10,11,12,13,14,15,16,17,18,19,20,21,22,23,24,25] ?_;refine vP ?_;repeat with_reducible intro nq)
    refine bN rfl rfl (fun nq K hK=>?_);go_simp;refine (d7.o _ _).mono ?_;rintro e3 w3 ⟨a9,rfl,P⟩;have g9:=P.dec.cell;have hC:=P.dec.frozen;have H:=Lh P;clear P b8 c2 D Y cT c4 X c3 R Q;go_simp;refine hK.out _ _ ?_;clear hK K;(refine vP ?_;repeat with_reducible intro nq)
    (repeat revert K);refine vg ?_;intro K hK;refine cX ?_;unfold gO;rw [y.o];exact ⟨rfl,C,_,(H.o.drewN _).err.drewN _,yK u.o.mod (((aK.refl (x.S1 v) B).drewN _).trans ((H.o.drewN _).stp.drawn _).mod (fun _ _ h=>h))⟩
 ·obtain ⟨g1,g2⟩:=rO l;obtain ⟨d1,i1⟩:s.ended=false∧Z=none:=by
   rcases d6.o.2.2 with h|h
   ·exact h
   ·exact absurd (by rw [h]) l
  subst i1;have e9:=Lh d1;clear d1;cases hO:C.strict with
  | true=>
   have y:=Lh (show lS x.o nm s=.error .syn by
    unfold lS;rw [HS.o];simp only;rw [aM (by rw [b2.o];simp),aT l,aT (by rw [←c8.o];exact hO)])
   have a1:¬ 9223372036854775807<9+e.loc.length:=by omega
   have a2:¬ 9223372036854775807<9+e.loc.length+14:=by omega
   have a3:¬ 9223372036854775807<9+e.loc.length+14+nm.2.length:=by omega
   have a4:¬ 9223372036854775807<9+e.loc.length+14+nm.2.length+1:=by omega
   clear l a0 c5 c6 bA;go_quiet (fail);(repeat revert K);refine vg ?_;intro K hK K hK;(refine lI [0,0,0,0,0,0,1,0,0,0,1,0,0,2,0,0,2] [0,1,2,3,4,5,6,7,8,9,10,11,12,13,14,15,16] ?_;refine vP ?_;repeat with_reducible intro nq)
   refine bN rfl rfl (fun nq K hK=>?_);go_simp;refine (d7.o _ _).mono ?_;rintro e3 w3 ⟨a9,rfl,P⟩;have g9:=P.dec.cell;have hC:=P.dec.frozen;have H:=Lh P;clear P b8 c2 D Y cT c4 X c3;go_simp;refine hK.out _ _ ?_;clear hK K;(refine vP ?_;repeat with_reducible intro nq)
   (repeat revert K);refine vg ?_;intro K hK;refine cX ?_;unfold gO;rw [y.o];exact ⟨rfl,C,_,(H.o.drewN _).err.drewN _,yK u.o.mod (((aK.refl (x.S1 v) B).drewN _).trans ((H.o.drewN _).stp.drawn _).mod (fun _ _ h=>h))⟩
  | false=>
   have y:=Lh (show lS x.o nm s=.ok (.fin (e.space,e.loc),{ s with stk:=i,toClose:=some nm }) by
    unfold lS;rw [HS.o];simp only;rw [aM (by rw [b2.o];simp),aT l,aM (by rw [←c8.o,hO];simp)])
   clear l a0 c5 c6 bA;go_quiet (fail);(repeat revert K);refine vg ?_;intro K hK K hK;refine cX ?_;unfold gO;rw [y.o];have G:∀ b,b∈m::(g++q::A)→b∈m::((q::g)++A):=by
    intro b d;simp only [l6,List.mem_append,iZ] at d ⊢;rcases d with h|h|h|h
    ·exact aG h
    ·exact aX (aX (aG h))
    ·exact aX (aG h)
    ·exact aX (aX (aX h))
   have hm:aK (fun b=>b=x.d∨b=j) B ((((((B.drewN nq).setCell ⟨x.d,14,none⟩ (.bool true)).setCell ⟨x.d,15,none⟩ (aB nm.1)).setCell ⟨x.d,16,none⟩ (aB nm.2)).setCell ⟨j,0,none⟩ (aB e.space)).setCell ⟨j,1,none⟩ (aB e.loc)):=
    ((((((aK.refl (fun b=>b=x.d∨b=j) B).drewN nq).setCell (p:=⟨x.d,14,none⟩) (aG (aG rfl)) _).setCell (p:=⟨x.d,15,none⟩) (aG (aG rfl)) _).setCell (p:=⟨x.d,16,none⟩) (aG (aG rfl)) _).setCell (p:=⟨j,0,none⟩) (aG (aX rfl)) _).setCell (p:=⟨j,1,none⟩) (aG (aX rfl)) _
   have h7:bU ((((((B.drewN nq).setCell ⟨x.d,14,none⟩ (.bool true)).setCell ⟨x.d,15,none⟩ (aB nm.1)).setCell ⟨x.d,16,none⟩ (aB nm.2)).setCell ⟨j,0,none⟩ (aB e.space)).setCell ⟨j,1,none⟩ (aB e.loc)) x.d { C with needClose:=true,tcs:=⟨nm.1.toArray⟩,tcl:=⟨nm.2.toArray⟩ } v:=
    ((((show aJ (B.drewN nq) x.d _ _ from L.o.dec).set 14 (.bool true)).set 15 (aB nm.1)).set 16 (aB nm.2)).set_ne (a:=⟨j,0,none⟩) (fun t=>t2 t.symm) (aB e.space) |>.set_ne (a:=⟨j,1,none⟩) (fun t=>t2 t.symm) (aB e.loc)
   have i5:aJ ((((((B.drewN nq).setCell ⟨x.d,14,none⟩ (.bool true)).setCell ⟨x.d,15,none⟩ (aB nm.1)).setCell ⟨x.d,16,none⟩ (aB nm.2)).setCell ⟨j,0,none⟩ (aB e.space)).setCell ⟨j,1,none⟩ (aB e.loc)) j #[aB e.space,aB e.loc] 110:=
    (((((show aJ (B.drewN nq) j _ _ from f6.o).set_ne (a:=⟨x.d,14,none⟩) t2 (.bool true)).set_ne (a:=⟨x.d,15,none⟩) t2 (aB nm.1)).set_ne (a:=⟨x.d,16,none⟩) t2 (aB nm.2)).set 0 (aB e.space)).set 1 (aB e.loc)
   have d9:cD x { C with needClose:=true,tcs:=⟨nm.1.toArray⟩,tcl:=⟨nm.2.toArray⟩ } _ v s.rest none b1:=L.o.own HX.o.toOk h7 hm (fun k z=>by
    rcases z with z|z
    ·exact aG z
    ·exact aX (z▸⟨r.o.tS,r.o.tB⟩))
   have M:=J.o.mod hm (fun b d E=>by
    rcases E with E|E
    ·exact J.o.s1 b d (aG (aG E))
    ·exact b4.o.2.2.2 b d E) J.o.s1
   have N:=(u.o.mod.mono (S':=fun b=>b=x.d∨b∈m::((q::g)++A)∨b=j) (fun b _ d=>by
    rcases d with d|d
    ·exact aG d
    ·exact aX (aG d))).trans (hm.mono (S':=fun b=>b=x.d∨b∈m::((q::g)++A)∨b=j) (fun b _ d=>by
    rcases d with d|d
    ·exact aG d
    ·exact aX (aX d))) (fun _ _ h=>h)
   refine ⟨(e.space,e.loc),rfl,rfl,_,g,q::A,n,⟨⟨none,b1,d9,fun E=>(by have:=e9.o;rw [show s.ended=true from E] at this;cases this),fun E=>absurd rfl E⟩,rfl,fun hU W=>?_,r.o.rts.nb⟩,⟨M.stk,M.free,M.map,M.ns,M.nodup,M.base,M.s1⟩,i5,u.o.same.trans ⟨C.stk,C.free,C.depth,true,⟨nm.1.toArray⟩,⟨nm.2.toArray⟩,rfl⟩,N,u.o.sub,?_⟩
   ·simp only [kQ] at W;subst W;exact ⟨rfl,rfl⟩
   ·rw [HS.o];simp only [gF];omega
end Go.Proofs.YthapcchcahnfaaaGreatDoor
