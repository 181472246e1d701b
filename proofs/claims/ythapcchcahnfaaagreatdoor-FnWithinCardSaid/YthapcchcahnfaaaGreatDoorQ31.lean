/- Part of the proof that laws.FnWithin returns true for every argument. No conditions. -/
import Derived.Test.YthapcchcahnfaaaGreatDoorQ30
set_option linter.all false
set_option maxHeartbeats 8000000
set_option maxRecDepth 100000
namespace Go.Proofs.YthapcchcahnfaaaGreatDoor
open Go Go.RowKit
theorem Bj (x:Cx) (L:x.Ok) (r:x.o.auto=[]) (c:DC) (q:GX x c.auto) (a:c.strict=x.o.strict) (w:World) (G:Below x.B x.W0 w) (v:DV) (h:bU w x.d c v) (s:St) {N:List Nat} (J:iJ w c.stk s.stk N) (y:kN s.stk) (F:Value) (B:Nat) (z:Value) (l:aU) (C:iT w F B z l) (t:∀ nm,l=.fin nm→nm.2.length≤1000000000000) (Q:Exit→Act→World→Prop)
  (o:(x.o.strict=true∨kV cN x.o l s=none)→∀ f w',Below w.heap.size w w'→(gP 19).wp Tryz.prog Q (fr 204 f [(0,bV x),(4,z),(5,.nilIface)]) w')
  (p:∀ nm,x.o.strict=false→kV cN x.o l s=some nm→∀ f w',Below w.heap.size w w'→(gP 19).wp Tryz.prog Q (fr 204 f [(0,bV x),(4,MN nm),(5,.nilIface)]) (w'.setCell ⟨x.d,17,none⟩ z))
  (f:Nat→Value):(gP 14).wp Tryz.prog Q (fr 204 f [(0,bV x),(4,z),(5,.nilIface)]) w:=by
 have H:=h.cell;have I:=h.frozen;have E:=Lh (W8 x L r c q w G v h s J y F B z l C t);obtain ⟨ty,u,rfl⟩:=C.iface;have ⟨n,A,M⟩:=lQ o p h;clear h J y o p q r G C t L;have i:c.strict=true∨c.strict=false:=by cases c.strict<;>simp
 conv=>arg 2;unfold gP;whnf
 rcases i with k|k
 ·have e:=Lh (show x.o.strict=true by rw [←a];exact k);clear a;refine vT 19 ?_;refine cM [0,4,5] fun f=>?_;exact bB (n.o (aG e.o) f w (Below.refl _ w)) (by kernel_rfl)
 ·have e:=Lh (show x.o.strict=false by rw [←a];exact k);clear a;refine vg ?_;intro K hK K hK K hK;refine E.o.mono ?_;rintro O D ⟨rfl,g⟩;have m:=Lh g;have j:bU D x.d c v:=aJ.mod (S:=fun _=>False) M.o (aH g _) id;clear g E H I;have H:=j.cell;have I:=j.frozen;clear j;cases b:kV cN x.o l s with
  | none=>
   have d:=Lh b;clear b;simp only [PP];go_simp;(repeat revert K);refine vT 19 ?_;refine cM [0,4,5] fun f=>?_;exact bB (n.o (aX d.o) f D m.o) (by kernel_rfl)
  | some nm=>
   have d:=Lh b;clear b;simp only [PP];go_simp;(repeat revert K);refine vT 19 ?_;refine cM [0,4,5] fun f=>?_;exact bB (A.o nm e.o d.o f D m.o) (by kernel_rfl)
theorem yN:∀ (a:List gZ) (d:Bs→Option Bs),kN a→rP d→kN (fD a d).1∧rP (fD a d).2
 | [],d,c,f=>⟨c,f⟩
 | e::a,d,c,f=>by
  unfold fD;split
  ·exact ⟨c,f⟩
  ·refine yN a _ (fun g h=>c g (List.mem_cons_of_mem _ h)) (fun k u b=>?_);unfold gT at b;split at b
   ·split at b
    ·simp only [kQ] at b;rw [←b];exact (c e List.mem_cons_self).2.1
    ·cases b
   ·exact f k u b
theorem LQ {o:cP} {nm:Bs×Bs} {s b:St} {t:aU} (h:lS o nm s=.ok (t,b)) (f:kN s.stk) (g:rP s.ns) :
  b.rest=s.rest∧kN b.stk∧rP b.ns∧(b.toClose=s.toClose∨(b.toClose=some nm∧∃ e a,s.stk=e::a∧e.loc≠nm.2))∧b.next=s.next∧b.ended=s.ended:=by
 unfold lS at h;split at h
 ·cases h
 ·rename_i e a i;rw [i] at f;have c:kN a:=fun j k=>f j (List.mem_cons_of_mem _ k);split at h
  ·cases h
  ·split at h
   ·rename_i d;split at h
    ·cases h
    ·simp only [bT,bP] at h;obtain ⟨rfl,rfl⟩:=h;exact ⟨rfl,c,g,aX ⟨rfl,e,a,i,d⟩,rfl,rfl⟩
   ·split at h
    ·cases h
    ·simp only [bT,bP] at h;obtain ⟨rfl,rfl⟩:=h;obtain ⟨l,m⟩:=yN a s.ns c g;exact ⟨rfl,l,m,aG rfl,rfl,rfl⟩
theorem S7 (o:cP) (nm:Bs×Bs) (s:St):sN (lS o nm s):=by
 unfold lS;split
 ·(first|exact aW _|exact bF|exact bO _)
 ·split
  ·(first|exact aW _|exact bF|exact bO _)
  ·split
   ·split<;>(first|exact aW _|exact bF|exact bO _)
   ·split<;>(first|exact aW _|exact bF|exact bO _)
def GY (s:St) (b:aU):Prop:=∃ nm e a,b=.fin nm∧s.stk=e::a∧e.kind=0∧nm=(e.space,e.loc)
structure nL (x:Cx) (c:DC) (w:World) (v:DV) (s:St) (m:Nat) (e a:List Nat) (n:Nat) (B:Nat) (f:Value) (tk:aU):Prop where
 cfg:vY x c
 rd:CD x c w v s
 own:mC x w c v m e a n s.stk s.ns
 sok:kN s.stk
 nok:rP s.ns
 tcl:∀ nm,s.toClose=some nm→nm.1.length≤x.T.length∧nm.2.length≤x.T.length
 le:zV x.T.length tk∨GY s tk
 bnd:n+s.stk.length+2*s.rest.length+2*qL s.next+2*qL (some tk)≤2*x.T.length
 tok:iT w v.bufv B f tk
 hB:x.B≤B
 hBs:B≤w.heap.size
 tkd:∀ g,dP f g→g∉m::(e++a)∧¬ x.S1 v g
 nt:(∀ d,tk≠.text d)→(s.ended=false∧∃ b,cD x c w v s.rest none b)∨GY s tk
 nxt:kU x w v c s (m::(e++a))
def sK (x:Cx) (w:World) (v:DV) (c:DC) (R:Except EK (aU×St)) (m:Nat) (g f:List Nat) (j:Value) (t e:Value) (w':World):Prop:=
 match R with
 | .error k=>t=.nilIface∧wH x e (some k)∧Below x.B x.W0 w'∧jT w' e k∧aK (fun b=>x.S1 v b∨b∈m::(g++f)) w w'
 | .ok (tk,s')=>e=.nilIface∧∃ h v' d a i,TS x h w' v' s' m d a i∧(∃ B,iT w' v'.bufv B t tk)∧aK (fun b=>b=x.d∨b∈m::(g++f)∨dP j b) w w' ∧
   (∀ b∈m::(d++a),b∈m::(g++f)∨w.heap.size≤b)∧v'.bufv=v.bufv∧h.nextTok=c.nextTok
theorem qK.next {c a:DC} (h:qK c a):a.nextTok=c.nextTok:=by
 obtain ⟨_,_,_,_,_,_,rfl⟩:=h;rfl
theorem kU.far {x:Cx} {w:World} {v:DV} {c:DC} {s:St} {own:List Nat} (h:kU x w v c s own) {g:Nat} (a:dP c.nextTok g):g∉own∧¬ x.S1 v g:=by
 unfold kU at h;cases b:s.next with
 | none=>rw [b] at h;rw [show c.nextTok=.nilIface from h] at a;exact a.elim
 | some tk=>rw [b] at h;obtain ⟨_,_,_,_,_,d,_⟩:=h;exact d g a
theorem cD.bufFar {x:Cx} {c:DC} {w:World} {v:DV} {rest:Bs} {e:Option EK} {b:Bs} {m:Nat} {g d:List Nat} {n:Nat} {i:DC} {a:List gZ} {p:Bs→Option Bs} (h:cD x c w v rest e b) (o:mC x w i v m g d n a p) {k:Nat} (f:eD v.bufv k):k≠x.d∧k∉m::(g++d):=
 ⟨fun j=>h.bf.notS0 k f (aG j),fun l=>o.s1 k l (aX f)⟩
theorem nL.plain {x:Cx} {c:DC} {w:World} {v:DV} {s:St} {m:Nat} {g f:List Nat} {n B:Nat} {i:Value} {a:aU} (h:nL x c w v s m g f n B i a) (j:∀ nm d,a≠.start nm d) (k:∀ nm,a≠.fin nm):sK x w v c (cG x.o a s) m g f i i .nilIface w:=by
 have e:cG x.o a s=.ok (a,s):=by
  unfold cG;split
  ·exact absurd rfl (j _ _)
  ·exact absurd rfl (k _)
  ·rfl
 rw [e];exact ⟨rfl,c,v,g,f,n,⟨h.cfg,h.rd,h.own,h.sok,h.nok,h.tcl,by have:=h.bnd;omega,h.nxt⟩,⟨B,h.tok⟩,aK.refl _ _,fun b l=>aG l,rfl,rfl⟩
theorem wQ (x:Cx) (c:DC) (w:World) (v:DV) (s:St) (m:Nat) (A u:List Nat) (n B:Nat) (r:Value) (j:aU) (h:nL x c w v s m A u n B r j) (g:∀ nm b,j≠.start nm b) (i:∀ nm,j≠.fin nm) (Q:Exit→Act→World→Prop)
  (y:∀ f w' t e,sK x w v c (cG x.o j s) m A u r t e w'→Q .ret (fr 204 f [(2,t),(3,e)]) w') (f:Nat→Value):(gP 19).wp Tryz.prog Q (fr 204 f [(0,bV x),(4,r),(5,.nilIface)]) w:=by
 have ⟨k,H⟩:=cH y h;have l:=h.tok;clear y h;conv=>arg 2;unfold gP;whnf
 cases j with
 | start nm b=>exact absurd rfl (g _ _)
 | fin nm=>exact absurd rfl (i _)
 | text d=>
  obtain ⟨q,rfl,⟨g0,a,z,rfl,_⟩⟩:=l;have o:=fun v w=>VC v w;have p:=fun v w=>O3 v w;clear g i;refine vg ?_;refine Qk [2,3] fun f=>?_;exact k.o f _ _ _ (H.o.plain (by simp) (by simp))
 | comment d=>
  obtain ⟨q,rfl,⟨g0,a,z,rfl,_⟩⟩:=l;have o:=fun v w=>VE v w;have p:=fun v w=>PL v w;clear g i;refine vg ?_;refine Qk [2,3] fun f=>?_;exact k.o f _ _ _ (H.o.plain (by simp) (by simp))
 | dir d=>
  obtain ⟨q,rfl,⟨g0,a,z,rfl,_⟩⟩:=l;have o:=fun v w=>VF v w;have p:=fun v w=>PM v w;clear g i;refine vg ?_;refine Qk [2,3] fun f=>?_;exact k.o f _ _ _ (H.o.plain (by simp) (by simp))
 | proc tg d=>
  obtain ⟨q,rfl,_⟩:=l;have o:=fun v w=>VG tg v w;have p:=fun v w=>PN tg v w;clear g i;refine vg ?_;refine Qk [2,3] fun f=>?_;exact k.o f _ _ _ (H.o.plain (by simp) (by simp))
theorem VJ (x:Cx) (N:x.All) (c:DC) (w:World) (v:DV) (s:St) (m:Nat) (O J:List Nat) (n B:Nat) (tv:Value) (nm:Bs × Bs) (h:nL x c w v s m O J n B tv (.fin nm)) (Q:Exit → Act → World → Prop)
    (hQ:∀ f w' t e,sK x w v c (cG x.o (.fin nm) s) m O J tv t e w' → Q .ret (fr 204 f [(2,t),(3,e)]) w') (f:Nat → Value):(gP 19).wp Tryz.prog Q (fr 204 f [(0,bV x),(4,tv),(5,.nilIface)]) w:=by
  have ht:tv=MN nm:=h.tok;subst ht;have q3:=fun a b w=>VH a b w;have q4:=fun a b w=>PO a b w;obtain ⟨e0,b0,V,T,U⟩:=h.rd.rd;obtain ⟨wt,u⟩:=cR (w.alloc (.cells #[aB nm.1,aB nm.2] 110));have r:Below w.heap.size w wt:=by rw [u];exact (Below.refl _ w).alloc (dC _) _
  have E:aK (fun _=>False) w wt:=aH r _;have W:=V.below N.toOk r;have a3:∀ k ∈ m :: (O ++ J),k < w.heap.size:=h.own.lt;have b5:x.d < w.heap.size:=V.dec.lt;have Z:=N.len;have G:nm.1.length ≤ 100000000000∧nm.2.length ≤ 100000000000:=by
    rcases h.le with ⟨k1,k2⟩|⟨I,e,stk',D,y,_,R⟩
    · omega
    · cases D
      have:=h.sok e (by rw [y];simp);rw [R];exact this.2
  have Y:(nm.1.length ≤ x.T.length∧nm.2.length ≤ x.T.length) ∨ GY s (.fin nm):=h.le
  have a4:PF x c wt v s m O J n w.heap.size nm:=
    { fit:=by
        rcases h.nt (by simp) with ⟨D,b,y⟩|⟨I,e,stk',D,y,R,h4⟩
        · exact aG ⟨D,b,y.below N.toOk r⟩
        · cases D;exact aX ⟨e,stk',y,R,h4⟩
      strict:=h.cfg.dc.strict,rts:=⟨⟨e0,b0,W,T,U⟩,h.rd.nc,h.rd.tc,h.rd.nb⟩,own:=h.own.mod E (fun _ _=>id) h.own.s1,sok:=h.sok,
      bnd:=by have:=h.bnd;omega,sp:=h.cfg.sp,tok:=by rw [u];exact aJ.new w _ _,tS:=V.newS1,tO:=fun j=>Nat.lt_irrefl _ (a3 _ j),tB:=gA h.hB h.hBs,l1:=G.1,l2:=G.2 }
  have C:=Lh (CF x N c wt v s m O J n w.heap.size nm a4);have ⟨HQ,H,z,a8,b2,HX⟩:=iD hQ h E Y V N;clear hQ h V W a4 E r a3 b5 G Y Z T U N;conv=>arg 2;unfold gP;whnf
  refine vg ?_;intro K hK K hK K hK K hK;rw [← u];refine C.o.mono ?_;rintro e1 w1 M;have HW:=Lh (show cG x.o (.fin nm) s=lS x.o nm s from rfl);cases d:lS x.o nm s with
  | error k=>
    unfold gO at M;rw [d] at M;obtain ⟨rfl,c2,v2,S,a0⟩:=M;have bA:=Lh a0;obtain ⟨t1,u1,b6⟩:=S.err.iface;have HE:=Lh S;have hc:=S.dec.cell;have hf:=S.dec.frozen;have ⟨HU,l⟩:=cH b6 d;clear S C u d a0;(repeat revert K);refine vS ?_;intro K hK K hK K hK
    ((refine cM [0] fun f=>?_);go_quiet (fail);((repeat revert K);refine vg ?_;intro K hK K hK);refine Qk [2,3] fun f=>?_)
    refine HQ.o f _ _ _ ?_;rw [HW.o,l.o];refine ⟨rfl,by rw [← HU.o];exact HE.o.err,(HE.o.drewN _).base,jT.no (fun j=>by subst j;exact S7 _ _ _ l.o),?_⟩;refine (z.o.mono (fun _ _ h=>h.elim)).trans (bA.o.drewN _) (fun i hi q=>?_);rcases q with q|q|q
    · exact aG q
    · exact aX q
    · omega
  | ok p=>
    obtain ⟨tk,s'⟩:=p;unfold gO at M;rw [d] at M;obtain ⟨I,rfl,rfl,c2,b8,b4,n2,a5,a2,F,X,aA,a6,a1⟩:=M;have l:=Lh d;have b9:=F.cell;have cT:=F.frozen;have ⟨b3,b1,A,a9,P,bC⟩:=iD a5 a2 X aA a6 a1;clear a5 a2 X aA a6 a1 F C d;(repeat revert K);refine vS ?_;refine Qk [2,3] fun f=>?_;refine HQ.o f _ _ _ ?_;rw [HW.o,l.o];obtain ⟨j1,j2,j3,j4,j5,j6⟩:=LQ l.o H.o.sok H.o.nok;have a7:w.heap.size ≤ wt.heap.size:=z.o.size;have aC:aK (fun b=>b=x.d ∨ b ∈ m :: (O ++ J) ∨ dP (MN nm) b) w _:=(z.o.mono (fun _ _ h=>h.elim)).trans a9.o (fun i hi q=>by
      rcases q with q|q|q
      · exact aG q
      · exact aX (aG q)
      · omega)
    refine ⟨rfl,c2,v,b8,b4,n2,⟨H.o.cfg.same A.o,b3.o,b1.o,j2,j3,?_,?_,?_⟩,⟨0,rfl⟩,aC,fun b hb=>?_,rfl,A.o.next⟩
    · intro b7 o
      rcases j4 with j4|⟨j4,e,stk,j7,j8⟩
      · exact H.o.tcl b7 (by rw [← j4];exact o)
      · rw [j4] at o
        simp only [kQ] at o;subst o;rcases a8.o with L|⟨I,e',stk',D,y,_,R⟩
        · exact L
        · cases D
          rw [j7] at y;obtain ⟨rfl,_⟩:=List.cons.inj y;exact absurd (by rw [R]) j8
    · rw [j1,j5]
      have L:=bC.o;have o:=H.o.bnd;omega
    · refine H.o.nxt.step aC (fun k hk j=>?_) (fun g hg j=>?_) j5 A.o.next j6 (fun b hb=>?_)
      · obtain ⟨h7,L⟩:=b2.o.bufFar H.o.own hk
        rcases j with j|j|j
        · exact h7 j
        · exact L j
        · exact j.elim
      · obtain ⟨h7,L⟩:=H.o.nxt.far hg
        rcases j with j|j|j
        · exact L (j ▸ aG (aG rfl))
        · exact h7 j
        · exact j.elim
      · rcases P.o b hb with o|o
        · exact aG o
        · exact aX (gA a7 o)
    · rcases P.o b hb with o|o
      · exact aG o
      · exact aX (gA a7 o)
theorem cD.notRow {x:Cx} {c:DC} {w:World} {v:DV} {rest:Bs} {e:Option EK} {b:Bs} (h:cD x c w v rest e b) {g:Nat} {d:Array Value} (f:aJ w g d 103) (k:¬ x.S0 g):¬ x.S1 v g:=by
 rintro (a|a)
 ·exact k a
 ·rcases h.bf with ⟨i,_⟩|⟨g',cap,arr,i,j,_⟩
  ·rw [i] at a;exact a
  ·rw [i] at a;have l:g=g':=a;subst l;unfold aJ at j f;rw [j] at f;simp at f
theorem S8 (x:Cx) (hx:x.All) (c:DC) (w:World) (v:DV) (s:St) (m:Nat) (sb fb:List Nat) (n B:Nat) (tv:Value) (nm:Bs×Bs) (d:List cV) (h:nL x c w v s m sb fb n B tv (.start nm d)) (c4:s.next=none) (Q:Exit→Act→World→Prop)
  (hQ:∀ f w' t e,sK x w v c (cG x.o (.start nm d) s) m sb fb tv t e w'→Q .ret (fr 204 f [(2,t),(3,e)]) w') (f:Nat→Value):(gP 19).wp Tryz.prog Q (fr 204 f [(0,bV x),(4,tv),(5,.nilIface)]) w:=by
 obtain ⟨sv,rfl,f1,a6⟩:=h.tok;obtain ⟨g,j,q,rfl,hG,e9,cT,e0,hN,G⟩:∃ g j q,sv=.slice (some ⟨g,0,none⟩) d.length j∧B≤g∧w.heap[g]?=some (.cells q 103 (0,0))∧d.length≤j∧j≤maxLen∧q.size=j*3∧q.toList.take (d.length*3)=aO d:=by
  rcases a6.2 with o|o
  ·exact absurd (o.2▸o.1) f1
  ·exact o
 have q3:=fun a b s w=>VI a b s w;obtain ⟨hE,b0,hR⟩:s.ended=false∧∃ b,cD x c w v s.rest none b:=by
  rcases h.nt (by simp) with h1|⟨nm',e,stk',h1,_⟩
  ·exact h1
  ·cases h1
 obtain ⟨wt,W⟩:=cR (w.alloc (.cells #[aB nm.1,aB nm.2,.slice (some ⟨g,0,none⟩) d.length j] 101));have b4:Below w.heap.size w wt:=by rw [W];exact (Below.refl _ w).alloc (dC _) _
 have aA:aK (fun _=>False) w wt:=aH b4 _;have Z:=hR.below hx.toOk b4;have hM:∀ k∈m::(sb++fb),k<w.heap.size:=h.own.lt;have hD:x.d<w.heap.size:=hR.dec.lt;have a4:=hx.len;obtain ⟨k1,k2,k3,k4⟩:zV x.T.length (.start nm d):=by
  rcases h.le with h1|⟨nm',e,stk',h1,_⟩
  ·exact h1
  ·cases h1
 have f2:c.nextTok=.nilIface:=by
  have o:=h.nxt;unfold kU at o;rw [c4] at o;exact o
 have ⟨g8,g9⟩:=cH f2 c4;clear f2 c4;have b7:aJ w g q 103:=e9;have b6:aJ wt g q 103:=b7.mod aA id;have a3:aJ wt w.heap.size #[aB nm.1,aB nm.2,.slice (some ⟨g,0,none⟩) d.length j] 101:=by rw [W];exact aJ.new w _ _
 have a5:=h.own.mod aA (fun _ _=>id) h.own.s1;have g3:=Lh b7.lt;obtain ⟨N,e8⟩:=h.tkd g rfl;have g7:=Lh e8;have g6:=Lh hR.newS1;have d3:=Lh (show B≤g∧d.length≤j∧j≤maxLen∧q.size=j*3∧q.toList.take (d.length*3)=aO d from ⟨hG,cT,e0,hN,G⟩);have M:g≠x.d:=fun e=>e8 (e▸aG (aG rfl));have d9:n+s.stk.length+2*s.rest.length+2*qL s.next+2*(1+d.length)≤2*x.T.length:=h.bnd;have D:=fun Q hQ f c1 e=>W4 x hx.toOk c wt v Z.dec Z.s1lt (gA h.hB (gA h.hBs aA.size)) m sb fb n s.stk s.ns a5 h.sok h.nok d (fun a ha=>(k3 a ha).mono a4) (by omega) (by omega) w.heap.size g j q b6 G ⟨M,N⟩ Q hQ f c1 e;have ⟨C,HQ,H,HX,d2,HT⟩:=iD D hQ h hx Z a3;have ⟨HG,c9,Y,X⟩:=kY b6 aA hM hD;have HL:=Lh (show nm.1.length≤1000000000∧nm.2.length≤1000000000∧d.length≤1000000000 by omega);clear d9;clear D hQ h hx hR Z b4 a5 f1 a6 e9 k1 k2 k4 a4 b7 b6;conv=>arg 2;unfold gP;whnf
 have F:=a3.cell;have J:=a3.frozen;clear a3;refine vg ?_;intro K hK K hK;rw [←W];clear F J;refine cM [0,5,8,101,102,103] fun f=>?_;refine C.o _ ?_ f _ (by kernel_rfl);intro f c1 w1 c7 b2 n1 z aC b9 S P
 have b1:=Lh (show cG x.o (.start nm d) s=.ok (.start (cQ x.o (dR d s.stk s.ns).2 nm true) (d.map (W5 x.o (dR d s.stk s.ns).2)),
   { s with stk:={ kind:=0,space:=nm.1,loc:=nm.2,ok:=false }::(dR d s.stk s.ns).1,ns:=(dR d s.stk s.ns).2 }) from rfl)
 obtain ⟨f9,U⟩:∃ a,a=(dR d s.stk s.ns).1:=⟨_,rfl⟩;obtain ⟨p,R⟩:∃ a,a=(dR d s.stk s.ns).2:=⟨_,rfl⟩;rw [←U] at b9 S b1 aC;rw [←R] at P b1 aC;have h2:w.heap.size<wt.heap.size:=by rw [W];show _<(w.heap.push _).size;rw [Array.size_push];omega
 have c3:∀ k,(k=x.d∨k∈m::(sb++fb))→k<w.heap.size:=fun k l=>by
  rcases l with l|l
  ·rw [l];exact X.o
  ·exact Y.o k l
 have h0:g<wt.heap.size:=HG.o.lt;have a2:=HT.o.mod z.mod (fun r=>Nat.lt_irrefl _ (c3 _ r));have e1:=HG.o.mod z.mod (fun r=>by
  rcases r with r|r
  ·exact M r
  ·exact N r)
 have f3:=Lh (zT x HX.o.toOk c1 w1 v z.dec (fun k l=>rS (d2.o.s1lt k l) z.mod.size) (gA (gA H.o.hB (gA H.o.hBs c9.o.size)) z.mod.size) m c7 b2 n1 f9 p aC nm);have F:=a2.cell;have J:=a2.frozen;have ⟨hA,g0,d4,g5,d1,dI⟩:=iD a2 e1 z b9 S P;have hU:=Lh c3;clear a2 e1 z aC b9 S P C c3 W U R;(repeat revert K);refine vg ?_;intro K hK K hK K hK;refine f3.o.mono ?_;rintro e2 w2 ⟨rfl,c2,c8,b3,T,a0⟩;have y:=Lh (d4.o.trans T);have a8:∀ b,b∈m::(c7++b2)→b∈m::(sb++fb)∨wt.heap.size≤b:=d4.o.sub;have L:∀ k,(k=x.d∨k∈m::(c7++b2))→k≠w.heap.size∧k≠g:=by
  rintro k (l|l)
  ·rw [l];exact ⟨Nat.ne_of_lt X.o,fun e=>M e.symm⟩
  ·rcases a8 k l with o|o
   ·exact ⟨Nat.ne_of_lt (Y.o k o),fun e=>N (e▸o)⟩
   ·exact ⟨fun e=>by omega,fun e=>by omega⟩
 have c5:=hA.o.mod T.mod (fun r=>(L _ r).1 rfl);have e4:=g0.o.mod T.mod (fun r=>(L _ r).2 rfl);have hJ:m<w.heap.size:=Y.o m List.mem_cons_self;obtain ⟨h3,hX,hW,E⟩:=y.o.cs;have a7:c2.space=⟨x.o.space.toArray⟩:=by rw [E];exact H.o.cfg.sp
 have f7:=Lh (qJ x c2 w2 v T.dec m n1 p a0.map a0.ns a7 w.heap.size _ _ c5 (Nat.ne_of_gt X.o) (Nat.ne_of_gt hJ) 0 nm rfl rfl (gA HL.o.1 (by decide)) true);have ⟨dT,g1,hV⟩:=lQ a0 e4 c5;clear f3 F J T a0 e4 c5 a8 L;(repeat revert K);refine vS ?_;intro K hK K hK K hK;refine f7.o.mono ?_;rintro e3 w3 ⟨rfl,O,d8,hP⟩;have u:aJ w3 w.heap.size #[aB (cQ x.o p nm true).1,aB nm.2,.slice (some ⟨g,0,none⟩) d.length j] 101:=d8;have V:g≠w.heap.size:=Nat.ne_of_lt g3.o;have b5:bU w3 x.d c2 v:=aJ.mod y.o.dec O (Nat.ne_of_lt X.o);have hI:g≠m:=fun e=>N (by rw [e];exact List.mem_cons_self);have e6:=g1.o.mod O V;have a1:mC x w3 c2 v m c8 b3 n1 _ p:=dT.o.mod O (fun b hb he=>by
  rcases y.o.sub b hb with o|o
  ·exact Nat.lt_irrefl _ (he▸Y.o b o)
  ·omega) dT.o.s1
 have d6:=Lh (fun Q hQ f c1 e=>S6 x HX.o.toOk c2 w3 v b5 m n1 p a1.map a1.ns a7 d (fun a ha=>(k3 a ha).mono HX.o.len) HL.o.2.2 w.heap.size g j ((cQ x.o p nm true).1,nm.2) q e6 G ⟨M,hI,V⟩ u Q hQ f c1 e);have F:=u.cell;have J:=u.frozen;have ⟨hB,g4,gB,d0⟩:=kY u O b5 a1;clear f7 d8 hP u O b5 e6 a1;(repeat revert K);refine vS ?_;intro K hK K hK;refine cM [0,5,8,176,177] fun f=>?_;refine d6.o _ ?_ f _ (by kernel_rfl);intro f w4 d7 b8 e7 a9 I;have c6:=hB.o.mod b8 (fun e=>V e.symm);have hS:=c6.cell;have hT:=c6.frozen;have ⟨bC,g2,d5,bA⟩:=kY b8 e7 a9 I;clear c6 b8 e7 a9 I d6 F J;(repeat revert K);refine vg ?_;refine Qk [2,3] fun f=>?_;refine HQ.o f _ _ _ ?_;rw [b1.o];have f6:nm.2=(cQ x.o p nm true).2:=(yM _ _ _ _).symm;have hO:(Value.iface 101 (.agg #[aB (cQ x.o p nm true).1,aB nm.2,.slice (some ⟨g,0,none⟩) d.length j]))=Bc (cQ x.o p nm true) (.slice (some ⟨g,0,none⟩) d.length j):=by
  show _=Value.iface _ (.agg #[aB (cQ x.o p nm true).1,aB (cQ x.o p nm true).2,.slice (some ⟨g,0,none⟩) d.length j]);rw [←f6]
 rw [hO];obtain ⟨r1,r2,r3,r4,r5⟩:=d3.o;have f0:aK (fun b=>(b=x.d∨b∈m::(sb++fb))∨b=w.heap.size∨b=g) wt w4:=by
  refine (y.o.mod.mono (fun _ _ l=>aG l)).trans ((g4.o.mono (fun _ _ l=>aX (aG l))).trans (bC.o.mono (fun _ _ l=>aX (aX l))) (fun _ _ l=>l)) (fun _ _ l=>l)
 have hC:bU w4 x.d c2 v:=aJ.mod gB.o bC.o (fun e=>M e.symm);have e5:g∉m::(c8++b3):=fun r=>by
  rcases y.o.sub g r with o|o
  ·exact N o
  ·omega
 have hL:=d0.o.mod bC.o (fun b hb he=>e5 (he▸hb)) d0.o.s1;have f4:cD x c2 w4 v s.rest none b0:=d2.o.own HX.o.toOk hC f0 (fun k l=>by
  rcases l with (l|l)|l|l
  ·exact aG l
  ·exact aX ⟨H.o.own.s1 k l,H.o.own.base k l⟩
  ·rw [l];exact aX ⟨g6.o,gA H.o.hB H.o.hBs⟩
  ·rw [l];exact aX ⟨g7.o,gA H.o.hB r1⟩)
 have A:=y.o.same;refine ⟨rfl,c2,v,c8,b3,n1,⟨H.o.cfg.same A,⟨⟨none,b0,f4,fun r=>?_,fun r=>absurd rfl r⟩,?_,?_,H.o.rd.nb⟩,hL,?_,dI.o,H.o.tcl,?_,kU.none g9.o (by rw [A.next];exact g8.o)⟩,⟨B,_,rfl,by simp,?_⟩,?_,fun b hb=>?_,rfl,A.next⟩
 ·have o:s.ended=true:=r;rw [hE] at o;cases o
 ·rw [E];exact H.o.rd.nc
 ·rw [E];exact H.o.rd.tc
 ·intro e he;rcases l6.1 he with rfl|he
  ·have:=HL.o;exact ⟨aG rfl,by simp only;omega,by simp only;omega⟩
  ·exact d1.o e he
 ·have h8:=g5.o;have o:n+s.stk.length+2*s.rest.length+2*qL s.next+2*(1+d.length)≤2*x.T.length:=H.o.bnd;simp only [gF];omega
 ·refine ⟨by rw [lM],aX ⟨g,j,d7,by simp,r1,g2.o,by simpa using r2,r3,by rw [d5.o,r4],by simpa using bA.o⟩⟩
 ·refine (c9.o.mono (fun _ _ h=>h.elim)).trans f0 (fun i hi hs=>?_);rcases hs with (hs|hs)|hs|hs
  ·exact aG hs
  ·exact aX (aG hs)
  ·omega
  ·exact aX (aX hs)
 ·rcases y.o.sub b hb with o|o
  ·exact aG o
  ·exact aX (by omega)
end Go.Proofs.YthapcchcahnfaaaGreatDoor
