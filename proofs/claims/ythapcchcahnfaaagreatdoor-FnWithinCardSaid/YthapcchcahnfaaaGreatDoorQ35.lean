/- Part of the proof that laws.FnWithin returns true for every argument. No conditions. -/
import Derived.Test.YthapcchcahnfaaaGreatDoorQ31
import Derived.Test.YthapcchcahnfaaaGreatDoorQ34
set_option linter.all false
set_option maxHeartbeats 8000000
set_option maxRecDepth 100000
namespace Go.Proofs.YthapcchcahnfaaaGreatDoor
open Go Go.RowKit Go.Proofs.Tryz
theorem JM {x:Cx} (q:x.Ok) (h:∃ cs t,aJ x.W0 x.eofA.block cs t) {k:EK} {e:Value} {w:World} (v:Below x.B x.W0 w) (b:wH x e (some k)) (y:jT w e k) :
  (binOp .eql 59 e x.eofV).run prog w=.ok (.bool (decide (k=.eof))) w:=by
 cases k with
 | eof=>rw [show e=x.eofV from b];exact BX _ w
 | own=>rw [show e=zH from b];exact BY _ _ w
 | syn=>obtain ⟨a,b⟩:=b;rw [b];exact RT _ _ w
 | other=>
  obtain ⟨a,o,r⟩:=b;obtain ⟨A,cs,t,g,s⟩:=y rfl;rw [o] at g;simp only [Value.iface.injEq,Value.pointer.injEq,kQ,true_and] at g;subst g;obtain ⟨f,z,p⟩:=h;have u:aJ w x.eofA.block f z:=by
   unfold aJ at p ⊢;rw [←p];exact v.block _ q.eofL
  rw [o];have c:=rU;have d:=I4;cases l:prog.info? 196 with
  | none=>rw [l] at c;cases c
  | some i=>
   cases m:prog.info? 198 with
   | none=>rw [m] at d;cases d
   | some j=>
    rw [l] at c;rw [m] at d;have n:a≠x.eofA:=fun e=>by rw [e] at r;have:=q.eofL;omega
    refine run_eql_iface_ptr_other w underlying59 underlying196 l (by simpa using c) m ?_ n s u;have:j.size=1:=by simpa using d
    omega
theorem mC.same {x:Cx} {w:World} {c b:DC} {v:DV} {m:Nat} {f d:List Nat} {n:Nat} {a:List gZ} {e:Bs→Option Bs} (h:mC x w c v m f d n a e) (g:qH c b):mC x w b v m f d n a e:=by
 obtain ⟨_,_,_,rfl⟩:=g;exact ⟨h.stk,h.free,h.map,h.ns,h.nodup,h.base,h.s1⟩
theorem mC.next {x:Cx} {w:World} {c:DC} {v:DV} {m:Nat} {e b:List Nat} {n:Nat} {a:List gZ} {d:Bs→Option Bs} (h:mC x w c v m e b n a d) (u:Value):mC x w { c with nextTok:=u } v m e b n a d:=
 ⟨h.stk,h.free,h.map,h.ns,h.nodup,h.base,h.s1⟩
theorem vY.nextTok {x:Cx} {c:DC} (h:vY x c) (u:Value):vY x { c with nextTok:=u }:=⟨⟨h.dc.r,h.dc.strict⟩,⟨h.no.ent,h.no.ents⟩,h.sp,h.auto⟩
theorem TS.raw {x:Cx} (X:x.All) {c:DC} {w:World} {v:DV} {s:St} {m:Nat} {Q J:List Nat} {n:Nat} (h:TS x c w v s m Q J n) (k:s.next=none) {o:aU} {l:St} (M:eC x.o s=.ok (o,l)) {y:DC} {w1:World} {u:DV} (N:cU x w v w1 u) (C:qH c y) (q:CD x y w1 u l) {t:Value} (j:iT w1 u.bufv w.heap.size t o)
  (H:(∀ d,o≠.text d)→l.ended=false∧∃ b,cD x y w1 u l.rest none b):nL x y w1 u l m Q J n w.heap.size t o∧l.next=none∧zV x.T.length o:=by
 obtain ⟨V,b0,A,_,_⟩:=h.rd.rd;have p:s.rest.length≤x.T.length:=A.suf.length_le;obtain ⟨Y,I,O,S,Z,k6,T⟩:=iN M;obtain ⟨P,U⟩:=JG h.cfg.no.ents M p h.tcl;have D:c.nextTok=.nilIface:=by
  have a:=h.nxt;unfold kU at a;rw [k] at a;exact a
 have e:l.next=none:=S.trans k;obtain ⟨W,b1,B,_,_⟩:=q.rd;refine ⟨⟨h.cfg.same C.toD,q,?_,by rw [I];exact h.sok,by rw [O];exact h.nok,U,aG P,?_,j,A.base.size,N.mod.size,fun g i=>?_,fun f=>aG (H f),kU.none e (by rw [C.toD.next];exact D)⟩,e,P⟩
 ·rw [I,O];exact (h.own.step N).same C
 ·have a:=h.bnd;rw [k] at a;rw [I,e];rcases T with ⟨nm,_,rfl,rfl⟩|⟨_,L,_⟩
  ·simp only [qL] at a ⊢;omega
  ·cases o with
   | start nm ats=>simp only [aU.wt] at L;simp only [qL] at a ⊢;omega
   | _=>simp only [aU.wt] at L;simp only [qL] at a ⊢;omega
 ·have R:=(j.lt i).1;refine ⟨fun F=>by have:=h.own.lt g F;omega,?_⟩;cases o with
  | start nm ats=>
   obtain ⟨z,rfl,G,r⟩:=j;rcases r.2 with a|⟨g',cap,cur,rfl,_,E,_⟩
   ·exact absurd (a.2▸a.1) G
   ·have a:g=g':=i;subst a;exact B.notRow E (fun F=>by have:=A.s0lt g F;omega)
  | fin nm=>rw [show t=MN nm from j] at i;exact i.elim
  | text d=>obtain ⟨z,rfl,f⟩:=j;obtain ⟨_,_,_,rfl⟩:=f.slice;exact i.elim
  | comment d=>obtain ⟨z,rfl,f⟩:=j;obtain ⟨_,_,_,rfl⟩:=f.slice;exact i.elim
  | dir d=>obtain ⟨z,rfl,f⟩:=j;obtain ⟨_,_,_,rfl⟩:=f.slice;exact i.elim
  | proc tg d=>obtain ⟨z,rfl,f⟩:=j;exact i.elim
theorem nL.below {x:Cx} (j:x.Ok) {c:DC} {w w':World} {v:DV} {s:St} {m:Nat} {k i:List Nat} {n B:Nat} {o:Value} {l:aU} (h:nL x c w v s m k i n B o l) (a:Below w.heap.size w w'):nL x c w' v s m k i n B o l:=by
 obtain ⟨e,b,p,d,f⟩:=h.rd.rd;have g:aK (fun _=>False) w w':=aH a _
 exact ⟨h.cfg,⟨⟨e,b,p.below j a,d,f⟩,h.rd.nc,h.rd.tc,h.rd.nb⟩,h.own.mod g (fun _ _=>id) h.own.s1,h.sok,h.nok,h.tcl,h.le,h.bnd,h.tok.mod g (fun _ _=>id) (fun _ _=>id),h.hB,gA h.hBs a.size,h.tkd,
  fun q=>(h.nt q).imp (fun ⟨d,b,f⟩=>⟨d,b,f.below j a⟩) id,h.nxt.step g (fun _ _=>id) (fun _ _=>id) rfl rfl rfl (fun b a=>aG a)⟩
def mX (o:cP) (a:aU) (s:St):Except EK (aU×St):=
 if o.strict then cG o a s
 else match kV cN o a s with
  | none=>cG o a s
  | some nm=>cG o (.fin nm) { s with next:=some a }
theorem LZ {o:cP} {s:St} {t:aU} (h:s.next=some t):kR cN o s=mX o t { s with next:=none }:=by
 unfold kR mX;rw [h];rfl
theorem P1 {o:cP} {s:St} (h:s.next=none):kR cN o s=match eC o s with|.error e=>.error (if e=.eof∧s.stk≠[] then .syn else e)|.ok (t,s')=>mX o t s':=by
 unfold kR mX;rw [h];cases eC o s with
 | error e=>rfl
 | ok p=>rfl
theorem G1 {o:cP} {d:aU} {s:St} {nm:Bs×Bs} (h:kV cN o d s=some nm):∃ e a,s.stk=e::a∧e.kind=0∧nm=(e.space,e.loc):=by
 unfold kV at h;split at h
 ·cases h
 ·rename_i e a c;split at h
  ·cases h
  ·rename_i b;split at h
   ·split at h
    ·split at h
     ·cases h
     ·exact ⟨e,a,c,by simpa using b,by simpa using h.symm⟩
    ·exact ⟨e,a,c,by simpa using b,by simpa using h.symm⟩
   ·cases h
def pF (x:Cx) (w:World) (v:DV) (R:Except EK (aU×St)) (m:Nat) (f d:List Nat) (i:Value) (t e:Value) (w':World):Prop:=
 match R with
 | .error k=>t=.nilIface∧wH x e (some k)∧Below x.B x.W0 w'∧jT w' e k∧aK (fun b=>x.S1 v b∨b∈m::(f++d)) w w'
 | .ok (tk,s')=>e=.nilIface∧∃ h v' c a j,TS x h w' v' s' m c a j∧(∃ B,iT w' v'.bufv B t tk)∧aK (fun b=>b=x.d∨b∈m::(f++d)∨dP i b) w w' ∧
   (∀ b∈m::(c++a),b∈m::(f++d)∨w.heap.size≤b)∧v'.bufv=v.bufv∧∀ g,dP h.nextTok g→dP i g
theorem EQ (x:Cx) (E:x.All) (a0:x.o.auto=[]) (c:DC) (w:World) (v:DV) (s:St) (m:Nat) (y u:List Nat) (n B:Nat) (a:Value) (o:aU) (h:nL x c w v s m y u n B a o) (L:s.next=none) (V:zV x.T.length o) (a2:(∀ d,o≠.text d)→s.ended=false∧v.err=.nilIface) (Q:Exit→Act→World→Prop)
  (hQ:∀ f w' t e,pF x w v (mX x.o o s) m y u a t e w'→Q .ret (fr 204 f [(2,t),(3,e)]) w') (f:Nat→Value):(gP 14).wp prog Q (fr 204 f [(0,bV x),(4,a),(5,.nilIface)]) w:=by
 obtain ⟨e0,b0,hR,a8,a9⟩:=h.rd.rd;have aC:c.nextTok=.nilIface:=by
  have l:=h.nxt;unfold kU at l;rw [L] at l;exact l
 refine Bj x E.toOk a0 c h.cfg.auto h.cfg.dc.strict w hR.base v hR.dec s h.own.stk h.sok v.bufv B a o h.tok (fun nm C=>?_) Q (fun a1 f w' A=>?_) (fun nm a5 T f w' A=>?_) f
 ·subst C;have:=E.len;have l:nm.1.length≤x.T.length∧nm.2.length≤x.T.length:=V;omega
 ·
  have j:=h.below E.toOk A;have M:mX x.o o s=cG x.o o s:=by
   unfold mX;rcases a1 with l|l
   ·rw [aT l]
   ·rw [l];split<;>rfl
  have q:∀ f r P e,sK x w' v c (cG x.o o s) m y u a P e r→Q .ret (fr 204 f [(2,P),(3,e)]) r:=by
   intro f r P e z;refine hQ f r P e ?_;rw [M];unfold pF;unfold sK at z;cases Y:cG x.o o s with
   | error k=>
    rw [Y] at z;obtain ⟨p1,p2,p3,p4,p5⟩:=z;exact ⟨p1,p2,p3,p4,(aH A _).trans p5 (fun _ _ i=>i)⟩
   | ok p=>
    obtain ⟨a7,s2⟩:=p;rw [Y] at z;obtain ⟨C,c2,v2,N,G,n2,g1,g2,g3,g4,g5,g6⟩:=z;refine ⟨C,c2,v2,N,G,n2,g1,g2,(aH A _).trans g3 (fun _ _ i=>i),fun b I=>?_,g5,fun g D=>?_⟩
    ·rcases g4 b I with l|l
     ·exact aG l
     ·exact aX (gA A.size l)
    ·rw [g6,aC] at D;exact D.elim
  cases o with
  | start nm ats=>exact S8 x E c w' v s m y u n B a nm ats j L _ q f
  | fin nm=>exact VJ x E c w' v s m y u n B a nm j _ q f
  | text d=>exact wQ x c w' v s m y u n B a _ j (by simp) (by simp) _ q f
  | comment d=>exact wQ x c w' v s m y u n B a _ j (by simp) (by simp) _ q f
  | dir d=>exact wQ x c w' v s m y u n B a _ j (by simp) (by simp) _ q f
  | proc tg d=>exact wQ x c w' v s m y u n B a _ j (by simp) (by simp) _ q f
 ·
  obtain ⟨e1,F,q1,q2,q3⟩:=G1 T;have j:=h.below E.toOk A;obtain ⟨aA,Z,H,R,S⟩:=j.rd.rd;have O:aK (fun k=>k=x.d) w' (w'.setCell ⟨x.d,17,none⟩ a):=(aK.refl (fun k=>k=x.d) w').setCell (p:=⟨x.d,17,none⟩) (aG rfl) _;have hd:bU (w'.setCell ⟨x.d,17,none⟩ a) x.d { c with nextTok:=a } v:=(show aJ w' x.d _ _ from H.dec).set 17 a;have U:∀ k,eD v.bufv k→¬ k=x.d:=fun k i=>(H.bufFar j.own i).1;have a6:∀ g,dP a g→¬ g=x.d:=fun g D C=>(h.tkd g D).2 (C▸aG (aG rfl));have a4:CD x { c with nextTok:=a } (w'.setCell ⟨x.d,17,none⟩ a) v { s with next:=some o }:=⟨⟨aA,Z,H.turn E.toOk hd O,R,S⟩,j.rd.nc,j.rd.tc,j.rd.nb⟩;have W:=(j.own.mod O (fun b A C=>j.own.s1 b A (C▸aG (aG rfl))) j.own.s1).next a;have a3:kU x (w'.setCell ⟨x.d,17,none⟩ a) v { c with nextTok:=a } { s with next:=some o } (m::(y++u)):=by
   unfold kU;exact ⟨B,h.hB,gA j.hBs O.size,j.tok.mod O U a6,V,h.tkd,a2⟩
  have X:nL x { c with nextTok:=a } (w'.setCell ⟨x.d,17,none⟩ a) v { s with next:=some o } m y u n B (MN nm) (.fin nm):=
   ⟨h.cfg.nextTok a,a4,W,h.sok,h.nok,h.tcl,aX ⟨nm,e1,F,rfl,q1,q2,q3⟩,by have:=h.bnd;rw [L] at this;simp only [qL] at this ⊢;omega,rfl,h.hB,gA j.hBs O.size,fun g D=>D.elim,fun _=>aX ⟨nm,e1,F,rfl,q1,q2,q3⟩,a3⟩
  refine VJ x E _ _ v _ m y u n B (MN nm) nm X Q (fun f r P e z=>hQ f r P e ?_) f;have M:mX x.o o s=cG x.o (.fin nm) { s with next:=some o }:=by
   unfold mX;rw [aM (by rw [a5];simp),T]
  rw [M];unfold pF;unfold sK at z;have J:aK (fun k=>k=x.d) w (w'.setCell ⟨x.d,17,none⟩ a):=(aH A _).trans O (fun _ _ i=>i);cases Y:cG x.o (.fin nm) { s with next:=some o } with
  | error k=>
   rw [Y] at z;obtain ⟨p1,p2,p3,p4,p5⟩:=z;exact ⟨p1,p2,p3,p4,(J.mono (fun _ _ i=>i▸aG (aG (aG rfl)))).trans p5 (fun _ _ i=>i)⟩
  | ok p=>
   obtain ⟨a7,s2⟩:=p;rw [Y] at z;obtain ⟨C,c2,v2,N,G,n2,g1,g2,g3,g4,g5,g6⟩:=z;refine ⟨C,c2,v2,N,G,n2,g1,g2,(J.mono (fun _ _ i=>aG i)).trans g3 (fun _ _ i=>?_),fun b I=>?_,g5,fun g D=>?_⟩
   ·rcases i with i|i|i
    ·exact aG i
    ·exact aX (aG i)
    ·exact i.elim
   ·rcases g4 b I with l|l
    ·exact aG l
    ·exact aX (gA J.size l)
   ·rw [g6] at D;exact D
theorem XI (x:Cx) (z:x.Ok) (u:∃ cs t,aJ x.W0 x.eofA.block cs t) (G:x.W0.cell? ⟨1,0,none⟩=some (CX 59)) (n:1<x.B) {k:EK} {e:Value} {w:World} (B:Below x.B x.W0 w) (m:wH x e (some k)) (I:jT w e k) :
  Calls prog 19 #[e] w fun M w'=>M=.returned (.int .i64 (EK.code k))∧Below w.heap.size w w':=by
 obtain ⟨q,o⟩:=cR (w.alloc (.cells #[.pointer none] 113));have h:Below w.heap.size w q:=by rw [o];exact (Below.refl _ w).alloc (dC _) _
 have F:x.B≤w.heap.size:=B.size;have c:Below x.B x.W0 q:=B.trans (h.mono F);have y:jT q e k:=fun C=>by
  obtain ⟨a,cs,t,N,O⟩:=I C;exact ⟨a,cs,t,N,aJ.mod (S:=fun _=>False) O (aH h _) id⟩
 have j:=JM z u c m y;have i:q.cell? ⟨0,0,none⟩=some x.eofV:=by rw [←z.eof];exact c.cell z.gB
 have v:aJ q w.heap.size #[.pointer none] 113:=by rw [o];exact aJ.new w _ _
 have D:=Lh (show q.cell? ⟨1,0,none⟩=some (CX 59) from by rw [c.cell (p:=⟨_,0,none⟩) n];exact G);have r:=Lh (show 1<q.heap.size from rS n c.size);have ⟨b,g⟩:=cH h v;clear B I c y z u G n v h F;subst o;cases k with
 | eof=>
  rw [show e=x.eofV from m] at j ⊢;simp only [decide_true] at j;clear m;refine eT 21 func19 [_] fun f=>?_;simp only [aF];refine vg ?_;intro K hK;refine cX ?_;exact ⟨rfl,b.o⟩
 | own=>
  rw [show e=zH from m] at j ⊢;rw [decide_eq_false (by decide)] at j;have d:=Lh (fun w=>LT w);clear m;refine eT 21 func19 [_] fun f=>?_;simp only [aF];refine vg ?_;intro K hK K hK K hK;refine (d.o _).mono ?_;rintro E w1 ⟨rfl,rfl⟩;(repeat revert K);refine vS ?_;intro K hK;refine cX ?_;exact ⟨rfl,b.o⟩
 | syn=>
  obtain ⟨a,rfl⟩:=m;rw [decide_eq_false (by decide)] at j;have d:=Lh (fun w=>LR (.pointer (some a)) w);have l:=Lh (XG a ⟨w.heap.size,0,none⟩ (.pointer none) _ D.o r.o (g.o.cell 0) (g.o.frozen 0));refine eT 21 func19 [_] fun f=>?_;simp only [aF];refine vg ?_;intro K hK K hK K hK;refine (d.o _).mono ?_;rintro E w1 ⟨rfl,rfl⟩;(repeat revert K);refine vS ?_;intro K hK K hK K hK;refine l.o.mono ?_;rintro L P ⟨rfl,H⟩;have J:=Lh H;clear H i j;(repeat revert K);refine vS ?_;intro K hK;refine cX ?_;refine ⟨rfl,?_⟩;exact aK.below b.o b.o.size J.o (fun k C=>by rw [C];exact dC _)
 | other=>
  obtain ⟨a,rfl,_⟩:=m;rw [decide_eq_false (by decide)] at j;have d:=Lh (fun w=>LS (.pointer (some a)) w);have l:=Lh (XH (.pointer (some a)) ⟨w.heap.size,0,none⟩ (.pointer none) _ D.o r.o (g.o.cell 0) (g.o.frozen 0));refine eT 21 func19 [_] fun f=>?_;simp only [aF];refine vg ?_;intro K hK K hK K hK;refine (d.o _).mono ?_;rintro E w1 ⟨rfl,rfl⟩;(repeat revert K);refine vS ?_;intro K hK K hK K hK;refine l.o.mono ?_;rintro L P ⟨rfl,s⟩;have A:=Lh s;clear s i j;(repeat revert K);refine vS ?_;refine cX ?_;exact ⟨rfl,b.o.trans (A.o.mono b.o.size)⟩
theorem pF.tk {x:Cx} {w w1:World} {v u:DV} {c:DC} {R:Except EK (aU×St)} {m:Nat} {r q:List Nat} {s t e:Value} {w':World} (h:pF x w1 u R m r q s t e w') (j:cU x w v w1 u) (l:∀ g,dP s g→w.heap.size≤g):lD x w v c R m r q t e w':=by
 unfold lD;unfold pF at h;cases R with
 | error k=>
  obtain ⟨I,J,L,M,N⟩:=h;exact ⟨I,J,L,M,(j.mod.mono (fun _ _ a=>aG a)).trans N (fun i G a=>by
   rcases a with a|a
   ·rcases a with a|a
    ·exact aG (aG a)
    ·rcases j.buf i a with d|d
     ·exact aG (aX d)
     ·omega
   ·exact aX (aG a))⟩
 | ok p=>
  obtain ⟨O,Q⟩:=p;obtain ⟨E,y,P,o,n,H,g1,z,A,B,C,D⟩:=h;refine ⟨E,y,P,o,n,H,g1,z,?_,fun b f=>?_,fun b f=>?_,fun g F=>aX (l g (D g F))⟩
  ·refine (j.mod.mono (fun _ _ a=>aG a)).trans A (fun i G a=>?_);rcases a with a|a|a
   ·exact aG (aG (aG a))
   ·exact aX (aG a)
   ·have:=l i a;omega
  ·rcases B b f with d|d
   ·exact aG d
   ·exact aX (gA j.mod.size d)
  ·rcases f with f|f
   ·exact aG (aG f)
   ·rw [C] at f;rcases j.buf b f with d|d
    ·exact aG (aX d)
    ·exact aX d
theorem XJ (x:Cx) (hx:x.All) (T:kL x.W0) (B:3<x.B) (V:x.o.auto=[]) (U:∃ cs t,aJ x.W0 x.eofA.block cs t) (c:DC) (w:World) (v:DV) (s:St) (m:Nat) (sb fb:List Nat) (n:Nat) (h:TS x c w v s m sb fb n) (z:s.next=none) (Q:Exit→Act→World→Prop)
  (hQ:∀ f w' t e,lD x w v c (kR cN x.o s) m sb fb t e w'→Q .ret (fr 204 f [(2,t),(3,e)]) w') (f:Nat→Value):(gP 5).wp prog Q (fr 204 f [(0,bV x),(5,.nilIface)]) w:=by
 obtain ⟨e0,b0,hR,_,_⟩:=h.rd.rd;have G:=Lh (EH x hx T B c h.cfg.dc h.cfg.no w v s h.rd);have hc:=hR.dec.cell;have hf:=hR.dec.frozen;have a7:c.nextTok=.nilIface:=by
  have h9:=h.nxt;unfold kU at h9;rw [z] at h9;exact h9
 have q1:=fun w=>O1 w;have q2:=fun w=>O2 w;have q3:=fun w=>JC w;have q4:=fun w=>CA w;have W:=hx.gB;have C:x.W0.cell? ⟨0,0,none⟩=some x.eofV:=hx.eof;have ⟨HX,a0⟩:=cH hx U;have R:=Lh (show ∀ w',Below x.B x.W0 w'→w'.cell? ⟨0,0,none⟩=some x.eofV from fun w' hb=>by rw [←C];exact hb.cell W);have ⟨HR,H,a1,a4,HQ⟩:=pI hR h V z hQ;have S:=Lh (P1 (o:=x.o) z);have L:=Lh (h.own.stk.head h.sok);clear h hR hx U T B C W V z hQ;conv=>arg 2;unfold gP;whnf
 refine vg ?_;intro K hK K hK K hK K hK;refine G.o.mono ?_;rintro e1 w1 ⟨t,e,rfl,F⟩;clear G hc hf a7;cases a:eC x.o s with
 | error k=>
  unfold cS at F;rw [a] at F;obtain ⟨v1,r,rfl,rfl,A,hO⟩:=F;obtain ⟨t1,u1,P⟩:=A.err.iface;have hq:=JM HX.o.toOk a0.o A.base A.err hO;have b4:=R.o w1 A.base;rw [P] at hq ⊢;have ⟨HU,i⟩:=cH P r;have b3:=A.dec.cell;have b5:=A.dec.frozen;have ⟨J,HO⟩:=cH A hO;have l:=Lh (show kR cN x.o s=.error (if k=.eof∧s.stk≠[] then .syn else k) by rw [S.o,a]);clear A P hO a;by_cases j:k=.eof
  ·rw [decide_eq_true j] at hq;have M:=Lh j;clear j;rcases L.o with ⟨a8,y⟩|⟨q,en,l',nx,ok,a8,y,D,hb,Y⟩
   ·clear r;(repeat revert K);refine vS ?_;intro K hK K hK;refine Qk [2,3] fun f=>?_;refine HQ.o f _ _ _ ?_;rw [l.o,aM (fun hh=>hh.2 y)];exact ⟨rfl,by rw [←HU.o];exact J.o.err,J.o.base,by rw [←HU.o];exact HO.o,i.o.mod.mono (fun _ _ D=>aG D)⟩
   ·have N:=(show aJ w q _ _ from hb).mod r.mod (H.o.own.s1 q (by simp [Y]));have a6:=N.cell;have b6:=N.frozen;have a3:=Lh y;have a9:=Lh (fun bA=>BW x.d c v1 w1 J.o.dec bA);obtain ⟨ek,b2,bC,b1⟩:=en;simp only at D a6;clear hb Y y r N;rcases D with rfl|rfl
    all_goals
     (repeat revert K);refine vS ?_;intro K hK K hK K hK K hK;refine (a9.o _).mono ?_;rintro e2 w2 ⟨rfl,rfl⟩;(repeat revert K);refine vS ?_;intro K hK K hK;refine Qk [2,3] fun f=>?_;refine HQ.o f _ _ _ ?_;rw [l.o,aT ⟨M.o,by rw [a3.o];simp⟩];exact ⟨rfl,⟨_,rfl⟩,aK.below J.o.base J.o.base.size (aH ((Below.refl _ w1).alloc (dC _) _) (fun _=>False)) (fun _ h=>h.elim),jT.no (by decide),(i.o.mod.mono (fun _ _ D=>aG D)).trans (aH ((Below.refl _ w1).alloc (dC _) _) (fun _=>False)) (fun _ _ h=>h.elim)⟩
  ·rw [decide_eq_false j] at hq;have M:=Lh j;clear j r;(repeat revert K);refine vS ?_;intro K hK K hK;refine Qk [2,3] fun f=>?_;refine HQ.o f _ _ _ ?_;rw [l.o,aM (fun hh=>M.o hh.1)];exact ⟨rfl,by rw [←HU.o];exact J.o.err,J.o.base,by rw [←HU.o];exact HO.o,i.o.mod.mono (fun _ _ D=>aG D)⟩
 | ok p=>
  obtain ⟨tk,s1⟩:=p;unfold cS at F;rw [a] at F;obtain ⟨v1,c1,r,rfl,aA,Z,ht,O⟩:=F;obtain ⟨aC,I,X⟩:=H.o.raw HX.o a4.o a r aA Z ht O;have E:(∀ d,tk≠.text d)→s1.ended=false∧v1.err=.nilIface:=fun hd=>by
   obtain ⟨h1,b,h2⟩:=O hd;exact ⟨h1,h2.err⟩
  have a2:=Lh (fun Q hQ f=>EQ x HX.o a1.o c1 w1 v1 s1 m sb fb n w.heap.size t tk aC I X E Q hQ f);have i:=Lh r;have a5:=Lh (show ∀ g,dP t g→w.heap.size≤g from fun g hg=>(ht.lt hg).1);have l:=Lh (show kR cN x.o s=mX x.o tk s1 by rw [S.o,a]);obtain ⟨ty,u,rfl⟩:=ht.iface;clear r aA Z ht O a aC I X E;go_simp;(repeat revert K);refine vT 14 ?_;refine cM [0,4,5] fun f=>?_;refine bB (a2.o _ (fun f w' t' e F=>HQ.o f w' t' e ?_) f) (by kernel_rfl);rw [l.o];exact F.tk i.o a5.o
theorem TR (x:Cx) (Y:x.All) (H:x.o.auto=[]) (c:DC) (w:World) (v:DV) (s:St) (m:Nat) (P L:List Nat) (n:Nat) (h:TS x c w v s m P L n) (R:aU) (j:s.next=some R) (Q:Exit→Act→World→Prop)
  (M:∀ f w' t e,lD x w v c (kR cN x.o s) m P L t e w'→Q .ret (fr 204 f [(2,t),(3,e)]) w') (f:Nat→Value):(gP 5).wp prog Q (fr 204 f [(0,bV x),(5,.nilIface)]) w:=by
 obtain ⟨e0,b0,r,D,E⟩:=h.rd.rd;have z:=h.nxt;unfold kU at z;rw [j] at z;obtain ⟨B,n1,N,Z,n4,n5,O⟩:=z;have A:aK (fun k=>k=x.d) w (w.setCell ⟨x.d,17,none⟩ .nilIface):=(aK.refl (fun k=>k=x.d) w).setCell (p:=⟨x.d,17,none⟩) (aG rfl) _;have F:bU (w.setCell ⟨x.d,17,none⟩ .nilIface) x.d { c with nextTok:=.nilIface } v:=(show aJ w x.d _ _ from r.dec).set 17 .nilIface;have l:∀ k,eD v.bufv k→¬ k=x.d:=fun k a=>(r.bufFar h.own a).1;have J:∀ g,dP c.nextTok g→¬ g=x.d:=fun g X G=>(n5 g X).2 (G▸aG (aG rfl));have y:=r.turn Y.toOk F A
 have q:nL x { c with nextTok:=.nilIface } (w.setCell ⟨x.d,17,none⟩ .nilIface) v { s with next:=none } m P L n B c.nextTok R:=
  ⟨h.cfg.nextTok _,⟨⟨e0,b0,y,D,E⟩,h.rd.nc,h.rd.tc,h.rd.nb⟩,(h.own.mod A (fun b d G=>h.own.s1 b d (G▸aG (aG rfl))) h.own.s1).next _,h.sok,h.nok,h.tcl,aG n4,
   by have:=h.bnd;rw [j] at this;simp only [qL] at this ⊢;omega,Z.mod A l J,n1,gA N A.size,n5,fun F=>aG ⟨(O F).1,b0,by
    have C:=y;cases e0 with
    | none=>exact C
    | some k=>obtain ⟨t1,u1,hu⟩:=r.err.iface;rw [(O F).2] at hu;cases hu⟩,kU.none rfl rfl⟩
 have S:=Lh (fun Q M f=>EQ x Y H _ _ v _ m P L n B c.nextTok R q rfl n4 O Q M f);obtain ⟨ty,u,W⟩:=Z.iface;have hc:=r.dec.cell;have hf:=r.dec.frozen;have q2:=fun w=>O2 w;have q3:=fun w=>JC w;have HQ:=Lh M;have U:=Lh (LZ (o:=x.o) j);have T:=Lh A;clear h Y H j M r D E n1 N Z n4 n5 O A F l J y q;conv=>arg 2;unfold gP;whnf
 refine vT 14 ?_;refine cM [0,4,5] fun f=>?_;rw [←W];refine bB (S.o _ (fun f w' t' e I=>HQ.o f w' t' e ?_) f) (by kernel_rfl);rw [U.o];unfold lD;unfold pF at I;cases hw:mX x.o R { s with next:=none } with
 | error k=>
  rw [hw] at I;obtain ⟨p1,p2,p3,p4,p5⟩:=I;exact ⟨p1,p2,p3,p4,(T.o.mono (fun _ _ a=>a▸aG (aG (aG rfl)))).trans p5 (fun i hi a=>a.imp id aG)⟩
 | ok p=>
  obtain ⟨aC,s2⟩:=p;rw [hw] at I;obtain ⟨G,c2,v2,aA,V,N,g1,g2,g3,g4,g5,g6⟩:=I;refine ⟨G,c2,v2,aA,V,N,g1,g2,?_,fun b d=>?_,fun b d=>?_,fun g X=>aG (g6 g X)⟩
  ·refine (T.o.mono (fun _ _ a=>a▸aG (aG (aG rfl)))).trans g3 (fun i hi a=>?_);rcases a with a|a|a
   ·exact aG (aG (aG a))
   ·exact aX (aG a)
   ·exact aX (aX a)
  ·rcases g4 b d with C|C
   ·exact aG C
   ·exact aX (gA T.o.size C)
  ·rcases d with d|d
   ·exact aG (aG d)
   ·rw [g5] at d;exact aG (aX d)
theorem TT (x:Cx) (C:x.All) (l:kL x.W0) (a:3<x.B) (g:x.o.auto=[]) (o:∃ cs t,aJ x.W0 x.eofA.block cs t) (c:DC) (w:World) (v:DV) (s:St) (m:Nat) (j d:List Nat) (n:Nat) (h:TS x c w v s m j d n) :
  Calls prog 18 #[bV x] w fun b w'=>∃ t e,b=.returned (.tuple #[t,e])∧lD x w v c (kR cN x.o s) m j d t e w':=by
 obtain ⟨L,b0,u,_,_⟩:=h.rd.rd;have N:=u.dec.cell;have O:=u.dec.frozen;have P:=fun w=>O1 w;have Q:=fun w=>CA w;have i:=h.own.stk.head h.sok;have k:=Lh (show ∀ f,(gP 5).wp prog (bodyPost prog Tryz.f18 (fun b w'=>∃ t e,b=.returned (.tuple #[t,e])∧lD x w v c (kR cN x.o s) m j d t e w')) (fr 204 f [(0,bV x),(5,.nilIface)]) w from fun f=>by
  have E:∀ f w' t e,lD x w v c (kR cN x.o s) m j d t e w'→bodyPost prog Tryz.f18 (fun b w'=>∃ t e,b=.returned (.tuple #[t,e])∧lD x w v c (kR cN x.o s) m j d t e w') .ret (fr 204 f [(2,t),(3,e)]) w':=
   fun f w' t e J=>BL rfl (by decide) (by decide) (by simp only [aL,aP,aR,aZ,Nat.reduceEqDiff,↓reduceIte]) (by simp only [aL,aP,aR,aZ,Nat.reduceEqDiff,↓reduceIte]) ⟨t,e,rfl,J⟩
  cases r:s.next with
  | none=>exact XJ x C l a g o c w v s m j d n h r _ E f
  | some tk=>exact TR x C g c w v s m j d n h tk r _ E f)
 clear h C l a g o u;rcases i with ⟨B,p⟩|⟨q,b,l',nx,ok,B,p,F,y,A⟩
 ·refine eT 204 func18 [_] fun f=>?_;simp only [aF];refine vT 5 ?_;refine cM [0,5] fun f=>?_;exact bB (k.o f) (by kernel_rfl)
 ·have z:=y.cell;have I:=y.frozen;obtain ⟨M,H,D,G⟩:=b;simp only at F z;clear y A p;rcases F with rfl|rfl
  all_goals
   refine eT 204 func18 [_] fun f=>?_;simp only [aF];refine vT 5 ?_;refine cM [0,5] fun f=>?_;exact bB (k.o f) (by kernel_rfl)
end Go.Proofs.YthapcchcahnfaaaGreatDoor
