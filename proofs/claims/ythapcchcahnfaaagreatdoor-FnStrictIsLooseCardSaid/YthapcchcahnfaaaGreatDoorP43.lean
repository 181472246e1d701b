/- Part of the proof that laws.FnStrictIsLoose, laws.FnUnclosed, laws.FnReaderFails, laws.FnWithin, laws.FnSkip returns true for every argument. No conditions. -/
import Derived.Test.YthapcchcahnfaaaGreatDoorP38
import Derived.Test.YthapcchcahnfaaaGreatDoorP42
import Derived.Test.YthapcchcahnfaaaGreatDoorP39
set_option linter.all false
set_option maxHeartbeats 8000000
set_option maxRecDepth 100000
namespace Go.Proofs.YthapcchcahnfaaaGreatDoor
open Go Go.RowKit Go.Proofs.Tryz
theorem GX (acc l:List cZ) (a:cZ) (s:Bs):(aR (acc++a::l)).set (acc.length*3) (aB s)=aR ((acc++[(s,a.2.1,a.2.2)])++l):=by
 have b:aR (acc++a::l)=aR acc++([aB a.1,aB a.2.1,aB a.2.2]++aR l):=by simp [aR]
 have c:aR ((acc++[(s,a.2.1,a.2.2)])++l)=aR acc++([aB s,aB a.2.1,aB a.2.2]++aR l):=by simp [aR]
 rw [b,c,List.set_append_right _ _ (by rw [mB];omega),mB,Nat.sub_self];rfl
theorem OD {b:Bs} {bound:List aP} {acc l:List cZ} {a:cZ} (h:acc.any (fun y=>y.1==cL b bound a.1 false&&y.2.1==a.2.1)=true):gO b bound acc (a::l)=.error .opn:=by
 obtain ⟨d,c,v⟩:=a;unfold gO;exact aV h
theorem J4 {b:Bs} {bound:List aP} {acc l:List cZ} {a:cZ} (h:acc.any (fun y=>y.1==cL b bound a.1 false&&y.2.1==a.2.1)=false):gO b bound acc (a::l)=gO b bound (acc++[(cL b bound a.1 false,a.2.1,a.2.2)]) l:=by
 obtain ⟨d,c,v⟩:=a;conv=>lhs;unfold gO
 exact aN (by rw [h];simp)
def Ee (x:PX) (em:Bool) (c:Nat) (nm:Bs×Bs) (v:Value) (b:List cZ) (bound:List aP) (w0:World) (k:Nat) (a:Act) (w:World):Prop:=
 ∃ f i acc,a=fr 182 f [(0,jP x),(2,.bool em),(4,.pointer (some ⟨c,0,none⟩)),(7,aB nm.1),(8,aB nm.2),(13,v),(126,v),(127,.int .i64 (b.length:Nat)),(128,.int .i64 (i:Nat))]∧Below w0.heap.size w0 w ∧
  w.ownsRow w0.heap.size 68 3 v (acc++b.drop i).length (aR (acc++b.drop i))∧acc.length=i∧k=b.length-i∧i≤b.length∧gO x.space bound [] b=gO x.space bound acc (b.drop i)
def Ef (x:PX) (em:Bool) (d c:Nat) (nm:Bs×Bs) (v g:Value) (n i:Nat) (acc:List cZ) (e b:Bs) (w0:World) (k:Nat) (a:Act) (w:World):Prop:=
 ∃ f j,a=fr 182 f [(0,jP x),(2,.bool em),(4,.pointer (some ⟨d,0,none⟩)),(7,aB nm.1),(8,aB nm.2),(13,v),(14,.int .i64 (i:Nat)),(15,.pointer (some ⟨c,0,none⟩)),(126,v),(127,.int .i64 (n:Nat)),(128,.int .i64 (i:Nat)),(143,g),(144,.int .i64 (i:Nat)),(145,.int .i64 (j:Nat))]∧Below w0.heap.size w0 w ∧
  k=i-j∧j≤i∧((acc.take j).any fun y=>y.1==e&&y.2.1==b)=false
theorem xO {b:Nat} {w w':World} (h:Below b w w') (k:Nat):Below b w (w'.drewN k):=⟨h.os,h.tape,h.output,h.size,h.block⟩
theorem WV (x:PX) (a0:Nat) (w0:World) (c:PC) (opens:List Bs) (bound:List aP) (out:List cD) (h:dZ x a0 w0 c opens bound out) (d3:bound.length≤1000000000) (em:Bool) (bt:Nat) (nm:Bs×Bs) (d:List cZ) (d0:d.length≤1000000000) (g r:Nat) (W:World) (hb:Below w0.heap.size w0 W)
  (a4:W.ownsRow w0.heap.size 68 3 (.slice (some ⟨g,0,none⟩) d.length r) d.length (aR d)) (a3:d.length≤r) (e1:r≤maxLen) (Q:Exit→Act→World→Prop)
  (hE:gO x.space bound [] d=.error .opn→∀ f w',aY x w' { c with verd:=2 }→aM (fun k=>k=x.p) w0 w'→Q .ret (fr 182 f [(6,.bool false)]) w')
  (hN:∀ l,gO x.space bound [] d=.ok l→l.length=d.length→∀ f w',Below w0.heap.size w0 w'→w'.ownsRow w0.heap.size 68 3 (.slice (some ⟨g,0,none⟩) d.length r) l.length (aR l)→Q .normal (fr 182 f [(0,jP x),(2,.bool em),(4,.pointer (some ⟨bt,0,none⟩)),(7,aB nm.1),(8,aB nm.2),(13,.slice (some ⟨g,0,none⟩) d.length r)]) w') (f:Nat→Value) (c1:Code) (g6:c1=.loop (oV 21)) :
  c1.wp prog (Exit.inBlock 2 Q) (fr 182 f [(0,jP x),(2,.bool em),(4,.pointer (some ⟨bt,0,none⟩)),(7,aB nm.1),(8,aB nm.2),(13,.slice (some ⟨g,0,none⟩) d.length r),(126,.slice (some ⟨g,0,none⟩) d.length r),(127,.int .i64 (d.length:Nat)),(128,.int .i64 0)]) W:=by
 subst g6;have ⟨H,f4,b2,b7,hD,HE⟩:=iH h d3 d0 a3 e1 hE;have HN:=Lh hN;have f5:=Lh (fun (w':World) (h1:aY x w' c) (h2:aM (fun k=>k=x.p) w0 w')=>iL x w0 w' c h1 h2 2);refine wp_loop_ghost_k (Ee x em bt nm (.slice (some ⟨g,0,none⟩) d.length r) d bound w0) d.length ⟨f,0,[],rfl,hb,by rw [List.drop_zero,List.nil_append];exact a4,rfl,by rw [Nat.sub_zero],iW _,by rw [List.drop_zero]⟩ ?_;clear h hb a4 d3 d0 hE hN a3 e1;rintro k _ w ⟨f,i,acc,rfl,hb,hr,dT,hk,hi,f1⟩ J K2 hJ c8;have ⟨HJ,f6,HB,HR,HK,m⟩:=iH hJ c8 hb hr hk dT;have c6:=Lh f1;clear hJ c8 hb hr hk dT f1;unfold oV;conv=>arg 2;whnf
 by_cases e7:i<d.length
 ·have t1:(i:Int)<(d.length:Int):=by omega
  have t0:(0:Int)≤(i:Int):=by omega
  have t2:(i:Int)≤(r:Int):=by have:=b7.o;omega
  have wi:IntKind.i64.wrap ((i:Int)+1)=((i+1:Nat):Int):=by rw [IntKind.wrap_i64];have:=b2.o;omega
  obtain ⟨⟨s,e,n⟩,ha⟩:∃ a,d[i]?=some a:=⟨d[i],by simp [e7]⟩;have bC:d.drop i=(s,e,n)::d.drop (i+1):=by
   obtain ⟨g9,he⟩:=A1.1 ha;rw [EF g9,he]
  have G:=HR.o;have L:=c6.o;rw [bC] at G L;have D:(acc++(s,e,n)::d.drop (i+1))[i]?=some (s,e,n):=by
   rw [EG (by rw [m.o];exact dD _),m.o,Nat.sub_self];rfl
  obtain ⟨g',f2,-,k1,k2,k3⟩:=kM G D;simp only [kD,Addr.mk.injEq] at f2;obtain ⟨rfl,-⟩:=f2;have d8:w.cell? ⟨g,i*3,none⟩=some (aB s):=k1;have d9:w.cell? ⟨g,i*3+1,none⟩=some (aB e):=k2;have e0:w.cell? ⟨g,i*3+2,none⟩=some (aB n):=k3;obtain ⟨wa,N⟩:=cY (w.alloc (.cells #[aB s,aB e,aB n] 68));have d2:aJ wa w.heap.size #[aB s,aB e,aB n] 68:=by rw [N];exact aJ.new w _ _
  have P:=Lh d2;obtain ⟨ba,E⟩:=cY w.heap.size;rw [←E] at P;have f3:=Lh (show ba≠g from fun he=>by have:=(aU G (g:=g) rfl).1;omega);have a6:=Lh (show Below w0.heap.size w0 wa by rw [N];exact HB.o.alloc HB.o.size _);have e9:aM (fun _=>False) w wa:=by rw [N];exact (aM.refl _ w).alloc _
  have g4:=Lh (aE (S:=fun _=>False) G e9 (fun _ _=>id));have g5:=Lh (H.o.fresh (aG a6.o (fun _=>False)));have c5:=Lh (tU x a0 wa c opens bound out g5.o f4.o s false);have ⟨aL,b8⟩:=cN L bC;clear k1 k2 k3 d2 ha G L D e9 bC;refine vT 23 ?_;intro K hK;rw [←N,←E];clear N E d8 d9 e0;have bA:=P.o.cell;have e2:=P.o.frozen;revert K;refine vg ?_;intro K hK K hK K hK;refine c5.o.mono ?_;rintro e3 w3 ⟨rfl,T⟩;obtain ⟨O,M⟩:=cY (cL x.space bound s false);rw [←M];have V:=aE (S:=fun _=>False) g4.o (aG T _) (fun _ _=>id);have b4:=Lh (a6.o.trans (T.mono a6.o.size));have z:aJ w3 ba #[aB s,aB e,aB n] 68:=P.o.mod (aG T (fun _=>False)) id;have F:(acc++(s,e,n)::d.drop (i+1)).length=d.length:=by
   rw [←b8.o,fY,eY,m.o];omega
  have I:=V;rw [F] at I;have g8:=fun j=>nQ I j;have g7:w3.cell? ⟨g,i*3,none⟩=some (aB s):=by
   obtain ⟨g1,u,-,k1,-,-⟩:=kM V (i:=i) (a:=(s,e,n)) (by rw [EG (by rw [m.o];exact dD _),m.o,Nat.sub_self];rfl);simp only [kD,Addr.mk.injEq] at u;obtain ⟨rfl,-⟩:=u;exact k1
  clear F I;have ⟨c3,b5,C⟩:=mJ V z M;have bA:=z.cell;have e2:=z.frozen;clear T V z M;go_simp;(repeat revert K);refine vT 24 ?_;intro K hK;obtain ⟨wb,Y⟩:=cY (w3.setCell ⟨g,i*3,none⟩ (aB O));rw [←Y];obtain ⟨o,q⟩:∃ o,o=acc++[(O,e,n)]:=⟨_,rfl⟩;have b1:i*3<(acc++(s,e,n)::d.drop (i+1)).length*3:=by rw [fY,gN,m.o];omega
  have X:wb.ownsRow w0.heap.size 68 3 (.slice (some ⟨g,0,none⟩) d.length r) (o++d.drop (i+1)).length (aR (o++d.drop (i+1))):=by
   have hl:(o++d.drop (i+1)).length=(acc++(s,e,n)::d.drop (i+1)).length:=by rw [q];simp
   have h9:=c3.o;have F:(acc++(s,e,n)::d.drop (i+1)).length=d.length:=by rw [←b8.o,fY,eY,m.o];omega
   rw [F] at h9 b1;have h8:=rV h9 (i*3) b1 (aB O);rw [←Y] at h8;have h7:=GX acc (d.drop (i+1)) (s,e,n) O;rw [m.o] at h7;rw [h7] at h8;rw [hl,F,q];exact h8
  have bL:aM (fun k=>k=g) w3 wb:=by rw [Y];exact aM.setCell (S:=fun k=>k=g) (aM.refl _ _) (p:=⟨g,i*3,none⟩) (aH rfl) _
  have e4:w0.heap.size≤g:=(aU c3.o (g:=g) rfl).2;have R:=Lh (show Below w0.heap.size w0 wb from aM.below b4.o b4.o.size bL (fun j hj=>by rw [hj];exact e4));have b6:=Lh (b5.o.mod bL f3.o);have ⟨c4,aA⟩:=cN X q;have b3:=Lh (show o.length=i+1 by rw [q,fY,m.o];rfl);have D:(o++d.drop (i+1))[i]?=some (O,e,n):=by
   rw [q,r8,EG (by rw [m.o];exact dD _),m.o,Nat.sub_self];rfl
  obtain ⟨g1,u,-,k1,k2,k3⟩:=kM X D;simp only [kD,Addr.mk.injEq] at u;obtain ⟨rfl,-⟩:=u;have U:g<wb.heap.size:=(aU X (g:=g) rfl).1;clear X bL e4 Y q b1 g8 bA e2 D k2 k3 g7;revert K;refine vg ?_;intro K hK;refine cP [0,2,4,7,8,13,14,15,126,127,128,143,144,145] fun f=>?_;refine wp_loop_ghost_k (Ef x em bt ba nm (.slice (some ⟨g,0,none⟩) d.length r) (.slice (some ⟨g,0,none⟩) i r) d.length i acc O e wb) i ⟨f,0,rfl,Below.refl _ _,by simp,iW _,rfl⟩ ?_;rintro k9 _ w9 ⟨f,j,rfl,d1,e5,hI,a1⟩ J3 K3 c7 c9;have ⟨b9,cT,v,c2,A⟩:=o4 c7 c9 d1 e5 a1;clear c7 c9 d1 e5 a1;by_cases t:j<i
  ·have t3:(0:Int)≤(j:Int):=by omega
   have t4:(j:Int)<(i:Int):=by omega
   have wj:IntKind.i64.wrap ((j:Int)+1)=((j+1:Nat):Int):=by rw [IntKind.wrap_i64];have h2:=b2.o;omega
   obtain ⟨b,a9⟩:∃ b,acc[j]?=some b:=⟨acc[j]'(by rw [m.o];exact t),by simp [m.o,t]⟩;have dI:(o++d.drop (i+1))[j]?=some b:=by
    rw [aA.o,r8,List.getElem?_append_left (by rw [m.o];exact t)];exact a9
   obtain ⟨g1,u,-,m1,m2,m3⟩:=kM c4.o dI;simp only [kD,Addr.mk.injEq] at u;obtain ⟨rfl,-⟩:=u;have d5:w9.cell? ⟨g,j*3,none⟩=some (aB b.1):=(v.o.cell (p:=⟨g,j*3,none⟩) U).trans m1;have d6:w9.cell? ⟨g,j*3+1,none⟩=some (aB b.2.1):=(v.o.cell (p:=⟨g,j*3+1,none⟩) U).trans m2;have d7:w9.cell? ⟨g,j*3+2,none⟩=some (aB b.2.2):=(v.o.cell (p:=⟨g,j*3+2,none⟩) U).trans m3;obtain ⟨wq,Z⟩:=cY (w9.alloc (.cells #[aB b.1,aB b.2.1,aB b.2.2] 68));have d4:aJ wq w9.heap.size #[aB b.1,aB b.2.1,aB b.2.2] 68:=by rw [Z];exact aJ.new w9 _ _
   have B:=Lh (show Below wb.heap.size wb wq by rw [Z];exact v.o.alloc v.o.size _);have a2:aJ wq ba #[aB s,aB e,aB n] 68:=b6.o.mod (S:=fun _=>False) (aG B.o _) id;have hC:wq.cell? ⟨g,i*3,none⟩=some (aB O):=(B.o.cell (p:=⟨g,i*3,none⟩) U).trans k1;have hG:=d4.cell;have bA:=a2.cell;have a5:=Lh a9;clear dI m1 m2 m3 a9 d4 a2;revert K;refine vT 27 ?_;intro K hK K hK;rw [←Z];clear Z d5 d6 d7;refine cP [0,2,4,7,8,13,14,15,17,126,127,128,143,144,145] fun f=>?_;have aC:=Lh (R.o.trans (B.o.mono R.o.size));have f9:=Lh (show aM (fun k=>k=x.p) w0 wq from aG aC.o _);have g3:=Lh (show aY x wq c from H.o.blk.mod (S:=fun _=>False) (aG aC.o _) id);cases h1:(b.1==O) with
   | true=>
    cases h2:(b.2.1==e) with
    | true=>
     have a8:=Lh (show gO x.space bound [] d=.error .opn by
      rw [aL.o];refine OD ?_;rw [List.any_eq_true];exact ⟨b,List.mem_of_getElem? a5.o,by show (b.1==cL x.space bound s false&&b.2.1==e)=true;rw [←C.o,h1,h2];rfl⟩)
     (repeat revert K);refine vg ?_;intro K hK K hK K hK;go_quiet (fail);(repeat revert K);refine vg ?_;intro K hK K hK K hK K hK;refine (f5.o _ (by exact g3.o) (by exact eX f9.o rfl rfl rfl rfl)).mono ?_;rintro e6 w6 ⟨rfl,f0,e8⟩;have ⟨g2,f7⟩:=cN f0 e8;clear f0 e8;(repeat revert K);refine vS ?_;intro K hK K hK;refine Qk [6] fun f=>?_;exact HE.o a8.o f _ g2.o f7.o
    | false=>
     have a7:=Lh (sM (p:=fun y=>y.1==O&&y.2.1==e) a5.o A.o (by rw [h1,h2];rfl));(repeat revert K);refine vg ?_;intro K hK K hK K hK;go_quiet (fail);(repeat revert K);refine vg ?_;intro K hK;refine Kk [0,2,4,7,8,13,14,15,126,127,128,143,144,145] fun f=>?_;exact cT.o _ _ ⟨i-(j+1),by rw [c2.o];omega,b9.o _ _ _ ⟨f,j+1,rfl,xO B.o _,rfl,t,a7.o⟩⟩
   | false=>
    have a7:=Lh (sM (p:=fun y=>y.1==O&&y.2.1==e) a5.o A.o (by rw [h1];rfl));(repeat revert K);refine vg ?_;intro K hK K hK K hK;go_quiet (fail);(repeat revert K);refine vg ?_;intro K hK;refine Kk [0,2,4,7,8,13,14,15,126,127,128,143,144,145] fun f=>?_;exact cT.o _ _ ⟨i-(j+1),by rw [c2.o];omega,b9.o _ _ _ ⟨f,j+1,rfl,xO B.o _,rfl,t,a7.o⟩⟩
  ·have hB:j=i:=by omega
   subst hB;have t4:¬ ((j:Int)<(j:Int)):=by omega
   have g0:=Lh (show gO x.space bound [] d=gO x.space bound o (d.drop (j+1)) by
    have h9:=A.o;rw [show acc.take j=acc from List.take_of_length_le (by rw [m.o];exact dD _)] at h9;rw [aL.o,J4 (by show (acc.any fun y=>y.1==cL x.space bound s false&&y.2.1==e)=false;rw [←C.o];exact h9),aA.o,C.o])
   revert K;refine vg ?_;refine Kk [0,2,4,7,8,13,126,127,128] fun f=>?_;exact f6.o _ _ ⟨d.length-(j+1),by rw [HK.o];omega,HJ.o _ _ _ ⟨f,j+1,o,rfl,R.o.trans (v.o.mono R.o.size),aE (S:=fun _=>False) c4.o (aG v.o _) (fun _ _=>id),b3.o,rfl,e7,g0.o⟩⟩
 ·have hA:i=d.length:=by omega
  subst hA;have t1:¬ ((d.length:Int)<(d.length:Int)):=by omega
  have gB:=Lh (HN.o acc (by rw [c6.o,List.drop_length];unfold gO;rfl) m.o);have b0:=HR.o;rw [List.drop_length,List.append_nil] at b0;have a8:=Lh b0;clear b0;refine vg ?_;intro K hK;refine Qk [0,2,4,7,8,13] fun f=>?_;exact gB.o f w HB.o a8.o
theorem row_ne {w:World} {a k:Nat} {e t:TypeId} {b n:Nat} {v:Value} {p:List Value} {cs:Array Value} (h:w.ownsRow a e b v n p) (c:aJ w k cs t) (j:e≠t):∀ g,v.ownBlock=some g→g≠k:=by
 intro g d o;subst o;rcases h.2 with ⟨f,_⟩|⟨g',cap',cur,f,_,m,_⟩
 ·rw [f] at d;cases d
 ·rw [f] at d;have i:g'=g:=by simpa [Value.ownBlock] using d
  subst i;have l:aJ w g' cur e:=m;unfold aJ at l c;rw [l] at c;simp only [kD,Obj.cells.injEq] at c;exact j c.2.1
theorem dZ.poke {x:PX} {b:Nat} {w:World} {c:PC} {opens:List Bs} {bound:List aP} {out:List cD} (h:dZ x b w c opens bound out) {d:Nat} {cs:Array Value} (z:aJ w d cs 35) (n:¬ gE x c d) (j:Nat) (u:Value):dZ x b (w.setCell ⟨d,j,none⟩ u) c opens bound out:=by
 have f:aM (fun k=>k=d) w (w.setCell ⟨d,j,none⟩ u):=aM.setCell (S:=fun k=>k=d) (aM.refl _ _) (p:=⟨d,j,none⟩) (aH rfl) _;obtain ⟨C,B,s⟩:=h.out;obtain ⟨D,r,l⟩:=h.op;obtain ⟨E,o,i⟩:=h.bd;refine ⟨h.blk.mod f (fun e=>n (aH e.symm)),h.pb,⟨C,aE B f (fun g a e=>n (aW (aH (e▸a)))),s.mono (fun _ _ q=>?_)⟩,⟨D,aE r f (fun g a e=>n (aW (aW (aH (e▸a))))),l⟩,⟨E,aE o f (fun g a e=>n (aW (aW (aW (e▸a))))),i.mono (fun _ _ q=>?_)⟩,h.s1,h.s2,h.s3⟩
 ·obtain ⟨t,y,v,rfl,m,a⟩:=q;exact ⟨t,y,v,rfl,aE m f (row_ne m z (by decide)),a⟩
 ·obtain ⟨t,y,v,rfl,m,a,A⟩:=q;exact ⟨t,y,v,rfl,aE m f (row_ne m z (by decide)),a,A⟩
theorem Ae (b:Nat) (a:List cZ) (J:a.length≤1000000000) (W:World) (D:Option Addr) (A b0:Nat) (o:W.ownsRow b0 68 3 (.slice D a.length A) a.length (aR a)) (g:Nat) (B:aJ W g #[] 68) (l:b≤g) :
  ∃ v' r,(Builtin.append_ #[33,33] 33 #[.slice (some ⟨g,0,none⟩) 0 0,.slice D a.length A]).run prog W=.ok v' r∧r.ownsRow b 68 3 v' a.length (aR a)∧aM (fun k=>k=g) W r∧∃ s c,v'=.slice (some ⟨s,0,none⟩) a.length c∧a.length≤c∧c≤maxLen:=by
 obtain ⟨i,C,Q,E,F⟩:=info_parts D2;have e:W.ownsRow b 68 3 (.slice (some ⟨g,0,none⟩) 0 0) 0 []:=⟨rfl,aW ⟨g,0,#[],rfl,l,B,dD _,by decide,rfl,rfl⟩⟩;rcases o.2 with ⟨f,I⟩|⟨g1,cap1,cur,f,_,G,_,_,_,H⟩
 ·have h:a=[]:=tZ I;subst h;simp only [Value.slice.injEq] at f;obtain ⟨rfl,_,rfl⟩:=f;exact ⟨_,_,run_append_owned_none W b _ _ _ i 3 underlying33 C _ 0 [] e,e,aM.refl _ _,g,0,rfl,dD _,by decide⟩
 ·simp only [Value.slice.injEq] at f;obtain ⟨rfl,_,rfl⟩:=f;have t:aJ W g1 cur 68:=G
  obtain ⟨v',r,O,z,d,n,_⟩:=run_append_own_at (P:=prog) (w:=W) b 33 33 68 i _ 3 48 underlying33 C Q E F rfl (by omega) _ 0 [] e ⟨g1,0,none⟩ a.length A (aR a) (mB a)
   (fun j u y=>by
    rw [show ((⟨g1,0,none⟩:Addr).add j)=⟨g1,j,none⟩ by cases j<;>simp [Addr.add],t.cell];have m:j<(aR a).length:=(A1.1 y).1;rw [←H,List.getElem?_take,aV (by rw [mB] at m;exact m),Array.getElem?_toList] at y;exact y)
   (fun u q=>by
    unfold aR at q;obtain ⟨p,_,q⟩:=List.mem_flatMap.1 q;simp only [mH,xZ,or_false] at q;rcases q with rfl|rfl|rfl<;>rfl) (by unfold maxLen;omega) (by omega) (fX l (Nat.le_of_lt B.lt))
  rw [Nat.zero_add,List.nil_append] at z;refine ⟨v',r,O,z,⟨d.os,d.tape,d.output,d.size,fun k M N=>d.block k M (fun L=>N (by simpa [Value.ownBlock] using L))⟩,?_⟩;rcases z.2 with ⟨f,_⟩|⟨s,c,_,f,_,_,v,x,_⟩
  ·have:=(n.1 f).1;simp at this
  ·exact ⟨s,c,f,v,x⟩
def xP (x:PX) (a:Nat) (out:List cD) (w w':World):Prop:=Below a w w'∧∃ b d c,dZ x a w' b d c out∧b.verd=2
theorem Af (x:PX) (a:Nat) (w:World) (c:PC) (opens:List Bs) (bound:List aP) (out:List cD) (h:dZ x a w c opens bound out) (c3:opens.length≤499999999) (X:bound.length=opens.length) (em:Bool) (d:Nat) (nm:Bs×Bs) (c1:nm.1.length≤1000000000) (c2:nm.2.length≤1000000000) (b:List cZ) (bL:b.length≤1000000000) (sa:Option Addr) (sc:Nat)
  (b0:w.ownsRow a 68 3 (.slice sa b.length sc) b.length (aR b)) (b8:∀ k,(Value.slice sa b.length sc).ownBlock=some k→¬ gE x c k) (tx:Value) (b5:aJ w d #[.int .i64 1,aB nm.1,aB nm.2,.slice sa b.length sc,tx,.int .i64 0] 35) (b3:a≤d) (b4:¬ gE x c d)
  (l:aP) (v9:Value) (hl:w.ownsRow a 177 2 v9 l.length (cW l)) (b9:l.length≤1000000000) (c5:∀ k,v9.ownBlock=some k→¬ gE x c k) (Q:Exit→Act→World→Prop)
  (hE:(gO x.space (l::bound) [] b=.error .opn∨(∃ A,gO x.space (l::bound) [] b=.ok A∧nm.1=bF))→∀ f w',xP x a out w w'→Q .ret (fr 182 f [(6,.bool false)]) w')
  (hN:∀ A,gO x.space (l::bound) [] b=.ok A→nm.1≠bF→A.length=b.length→∀ f w' c' g m,Below a w w'→c'.at'=c.at'→dZ x a w' c' (dV nm::opens) (l::bound) out→aJ w' d #[.int .i64 1,aB (cL x.space (l::bound) nm.1 true),aB nm.2,.slice (some ⟨g,0,none⟩) A.length m,tx,.int .i64 0] 35 →
   w'.ownsRow a 68 3 (.slice (some ⟨g,0,none⟩) A.length m) A.length (aR A)→¬ gE x c' g→Q .normal (fr 182 f [(0,jP x),(2,.bool em),(4,.pointer (some ⟨d,0,none⟩)),(7,aB nm.1),(8,aB nm.2)]) w') (f:Nat→Value) :
  (oV 17).wp prog Q (fr 182 f [(0,jP x),(2,.bool em),(4,.pointer (some ⟨d,0,none⟩)),(7,aB nm.1),(8,aB nm.2),(9,v9)]) w:=by
 have ⟨H,a8,a4,aC,aL,a7⟩:=iH h c3 X bL b0 b8;have ⟨U,a3,D,HE,HN⟩:=o4 b5 b3 b4 hE hN;have HO:=Lh (fun (Q:Exit→Act→World→Prop) hQ f=>Fy x a w c opens bound out h (by omega) X em d nm l v9 hl b9 c5 c1 c2 Q hQ f);clear h c3 X bL b0 b8 b5 b3 b4 hE hN hl b9 c5 c1 c2;unfold oV;conv=>arg 2;whnf
 refine wp_seq_k (fun K hK=>?_);refine bB (HO.o _ (fun f w1 v6 v7 b1 F i=>?_) f) (by kernel_rfl);have c7:=Lh b1;have a5:=Lh (U.o.mod F D.o);have a0:=Lh (aE aL.o F a7.o);have L:=Lh (show ¬ gE x { c with op:=v6,bd:=v7 } d from fun j=>by
  obtain ⟨_,h6,_⟩:=i.op;obtain ⟨_,h7,_⟩:=i.bd;have h8:=aJ.mod U.o F D.o;rcases j with j|j|j|j
  ·exact D.o (aH j)
  ·exact D.o (aW (aH j))
  ·exact row_ne h6 h8 (by decide) d j rfl
  ·exact row_ne h7 h8 (by decide) d j rfl)
 have M:=Lh (tU x a w1 { c with op:=v6,bd:=v7 } _ _ out i (by rw [gN,a4.o];have:=a8.o;omega) nm.1 true);have N:=Lh i;clear b1 F i HO U aL a7;revert K;refine vg ?_;intro K hK K hK;refine M.o.mono ?_;rintro e2 w2 ⟨rfl,v⟩;obtain ⟨rs,aA⟩:=cY (cL x.space (l::bound) nm.1 true);rw [←aA];have d0:=Lh aA;have o:=a5.o.mod (aG v (fun _=>False)) id;have s:=Lh o;have J:=Lh (aE (S:=fun _=>False) a0.o (aG v _) (fun _ _=>id));have bC:=Lh (N.o.fresh (aG v (fun _=>False)));have a2:=Lh (c7.o.trans (v.mono N.o.size));have Y:=o.cell;have d1:=o.frozen;clear v o aA M;go_simp;(repeat revert K);refine vT 19 ?_;obtain ⟨n,z⟩:=cY (w2.setCell ⟨d,1,none⟩ (aB rs));rw [←z];have y:aJ n d #[.int .i64 1,aB rs,aB nm.2,.slice sa b.length sc,tx,.int .i64 0] 35:=by
  have:=s.o.set 1 (aB rs);rw [z];simpa using this
 have R:dZ x a n { c with op:=v6,bd:=v7 } (dV nm::opens) (l::bound) out:=by rw [z];exact bC.o.poke s.o L.o 1 _
 have Z:aM (fun k=>k=d) w2 n:=by rw [z];exact aM.setCell (S:=fun k=>k=d) (aM.refl _ _) (p:=⟨d,1,none⟩) (aH rfl) _
 have a1:=Lh (aE J.o Z (row_ne J.o s.o (by decide)));have B:=Lh (aM.below a2.o (fX H.o.size a2.o.size) Z (fun k E=>by rw [E];exact a3.o));have ⟨a6,e⟩:=cN y R;obtain ⟨w4,I⟩:=cY (n.alloc (.cells #[] 68));have b2:aJ w4 n.heap.size #[] 68:=by rw [I];exact aJ.new n _ _
 have G:aM (fun _=>False) n w4:=by rw [I];exact (aM.refl _ n).alloc _
 obtain ⟨v',w5,P,O,cT,g,m,d2,b6,b7⟩:=Ae n.heap.size b aC.o w4 sa sc a (aE (S:=fun _=>False) a1.o G (fun _ _=>id)) n.heap.size b2 (dD _);subst d2;have a9:=Lh O;have c8:=Lh (show Below n.heap.size n w5 from aM.below (aM.below (Below.refl _ n) (dD _) G (fun _ h=>h.elim)) G.size cT (fun k E=>by rw [E];exact dD _));have ⟨c9,dI⟩:=cN b6 b7;have Y:=(show aJ (n.alloc (.cells #[] 68)) d _ _ from y.alloc _).cell;clear z y R Z b2 G O cT b6 b7;refine vB ?_;intro K hK;rw [←I];clear I;refine eV rfl (.tmp 122) (.tmp 124) _ _ rfl _ _ _ (by rw [cC (by decide)];(try simp only [aK,aQ,aS,aX,Nat.reduceEqDiff,↓reduceIte]);(try rfl)) (by rw [cC (by decide)];(try simp only [aK,aQ,aS,aX,Nat.reduceEqDiff,↓reduceIte]);(try rfl)) P ?_;clear P Y;rw [fR (by decide)];revert K;refine vg ?_;intro K hK;refine cP [0,2,4,7,8,13,126,127,128] fun f=>?_;refine WV x a n { c with op:=v6,bd:=v7 } (dV nm::opens) (l::bound) out e.o (by rw [gN,a4.o];have:=a8.o;omega) em d nm b aC.o g m w5 c8.o a9.o c9.o dI.o _ (fun he f w' hp hm=>?_) (fun A hx c6 f w' j hr=>?_) f _ (by kernel_rfl)
 ·have V:=Lh (HE.o (aH he) f w' ⟨aM.below B.o (fX H.o.size B.o.size) hm (fun k E=>by rw [E];exact H.o.pb),_,_,_,e.o.own hp hm rfl rfl rfl,rfl⟩);clear he hp hm;revert K;refine vg ?_;intro K hK;exact V.o
 ·have T:=e.o.fresh (aG j (fun _=>False));have q:=a6.o.mod (aG j (fun _=>False)) id;have C:=Lh (B.o.trans (j.mono (fX H.o.size B.o.size)));have ⟨u,t,bA,HX,W⟩:=o4 T q hr hx c6;have Y:=q.cell;have d1:=q.frozen;clear T q j hr hx c6;cases h1:(nm.1==[120,109,108,110,115]) with
  | true=>
   have HF:=Lh (iL x w' w' { c with op:=v6,bd:=v7 } u.o.blk (aM.refl _ _) 2);revert K;refine vg ?_;intro K hK K hK K hK;refine HF.o.mono ?_;rintro e7 w7 ⟨rfl,c4,r⟩;have V:=Lh (fun f=>HE.o (aW ⟨A,HX.o,AQ h1⟩) f w7 ⟨aM.below C.o (fX H.o.size C.o.size) r (fun k E=>by rw [E];exact H.o.pb),_,_,_,u.o.own c4 r rfl rfl rfl,rfl⟩);clear c4 r;(repeat revert K);refine vS ?_;intro K hK;refine Qk [6] fun f=>?_;exact V.o f
  | false=>
   have dT:=Lh (HN.o A HX.o (AR h1) W.o);revert K;refine vg ?_;refine Qk [0,2,4,7,8] fun f=>?_;have r:aM (fun k=>k=d) w' (w'.setCell ⟨d,3,none⟩ (.slice (some ⟨g,0,none⟩) b.length m)):=aM.setCell (S:=fun k=>k=d) (aM.refl _ _) (p:=⟨d,3,none⟩) (aH rfl) _;refine dT.o f _ { c with op:=v6,bd:=v7 } g m (aM.below C.o (fX H.o.size C.o.size) r (fun k E=>by rw [E];exact a3.o)) rfl (u.o.poke t.o L.o 3 _) ?_ ?_ ?_
   ·have:=t.o.set 3 (.slice (some ⟨g,0,none⟩) b.length m);rw [W.o,←d0.o];simpa using this
   ·have h9:=bA.o;rw [W.o] at h9 ⊢;exact nP (aE h9 r (row_ne h9 t.o (by decide))) e.o.size
   ·intro j;have h8:=(e.o.busy j).2;have h9:=(aU bA.o (g:=g) rfl).2;omega
def D8 (a:Bs) (bound:List aP) (nm:Bs×Bs) (b:List cZ):Except SV (aP×List cZ):=match eT b with
 | .error e=>.error e
 | .ok l=>match gO a (l::bound) [] b with
  | .error e=>.error e
  | .ok xs=>if nm.1=bF then .error .opn else .ok (l,xs)
theorem OE (a:Bs) (s:hZ) (nm:Bs×Bs) (b:List cZ) (h:¬ nm=([],bF)):nD false a s nm b=match D8 a s.bound nm b with
  | .error e=>.error e
  | .ok (l,xs)=>.ok (.start (cL a (l::s.bound) nm.1 true,nm.2) xs,{ s with opens:=dV nm::s.opens,bound:=l::s.bound }):=by
 unfold nD D8;rw [aN (by simp),aN h];cases eT b with
 | error e=>rfl
 | ok l=>
  simp only;cases gO a (l::s.bound) [] b with
  | error e=>rfl
  | ok xs=>
   simp only;by_cases c:nm.1=bF
   ·rw [aV c,aV c]
   ·rw [aN c,aN c]
theorem xP.of {x:PX} {a:Nat} {out:List cD} {w w1 w':World} (b:Below a w w1) (h:xP x a out w1 w'):xP x a out w w':=⟨b.trans h.1,h.2⟩
theorem Eg (x:PX) (a:Nat) (w:World) (c:PC) (opens:List Bs) (bound:List aP) (out:List cD) (h:dZ x a w c opens bound out) (L:opens.length≤499999999) (B:bound.length=opens.length) (em:Bool) (j:Nat) (nm:Bs×Bs) (F:nm.1.length≤1000000000) (G:nm.2.length≤1000000000) (b:List cZ) (u:b.length≤1000000000) (O:Option Addr) (P:Nat)
  (y:w.ownsRow a 68 3 (.slice O b.length P) b.length (aR b)) (D:∀ k,(Value.slice O b.length P).ownBlock=some k→¬ gE x c k) (tx:Value) (p:aJ w j #[.int .i64 1,aB nm.1,aB nm.2,.slice O b.length P,tx,.int .i64 0] 35) (z:a≤j) (C:¬ gE x c j) (Q:Exit→Act→World→Prop)
  (hE:D8 x.space bound nm b=.error .opn→∀ f w',xP x a out w w'→Q .ret (fr 182 f [(6,.bool false)]) w')
  (hN:∀ l i,D8 x.space bound nm b=.ok (l,i)→i.length=b.length→∀ f w' t g d,Below a w w'→t.at'=c.at'→dZ x a w' t (dV nm::opens) (l::bound) out→aJ w' j #[.int .i64 1,aB (cL x.space (l::bound) nm.1 true),aB nm.2,.slice (some ⟨g,0,none⟩) i.length d,tx,.int .i64 0] 35 →
   w'.ownsRow a 68 3 (.slice (some ⟨g,0,none⟩) i.length d) i.length (aR i)→¬ gE x t g→Q .normal (fr 182 f [(0,jP x),(2,.bool em),(4,.pointer (some ⟨j,0,none⟩)),(7,aB nm.1),(8,aB nm.2)]) w') (f:Nat→Value) :
  (oV 5).wp prog Q (fr 182 f [(0,jP x),(2,.bool em),(4,.pointer (some ⟨j,0,none⟩)),(7,aB nm.1),(8,aB nm.2)]) w:=by
 have a2:=p.cell;have ⟨H,aL,U,n,q,X⟩:=iH h L B u y D;have ⟨W,T,V,HE,HN,Z⟩:=iH p z C hE hN F;have aA:=Lh G;clear h L B u y D p z C hE hN F G;unfold oV;conv=>arg 2;whnf
 refine vg ?_;intro K hK;refine cP [0,2,4,7,8,9,36,37,38] fun f=>?_;clear a2;refine Z8 x w c H.o.blk em j nm b n.o O P a q.o _ (fun e f w' hp hm=>?_) (fun l hl E f v w' m hr=>?_) f _ (by kernel_rfl)
 ·have o:=Lh (HE.o (by unfold D8;rw [e]) f w' ⟨aM.below (Below.refl _ w) H.o.size hm (fun k hk=>by rw [hk];exact H.o.pb),_,_,_,H.o.own hp hm rfl rfl rfl,rfl⟩);clear e hp hm;revert K;refine vg ?_;intro K hK;exact o.o
 ·have HB:=Lh (m.mono H.o.size);have a0:=Lh (H.o.fresh (aG m (fun _=>False)));have r:=Lh (aE (S:=fun _=>False) q.o (aG m _) (fun _ _=>id));have s:=Lh (W.o.mod (aG m (fun _=>False)) id);have HR:=Lh (nP hr H.o.size);have HV:=Lh (show ∀ k,v.ownBlock=some k→¬ gE x c k from fun k hk a1=>by
   have h8:=(H.o.busy a1).2;have h9:=(aU hr hk).2;omega)
  have ⟨HL,Y⟩:=cN hl E;clear m hr hl E;revert K;refine vT 17 ?_;refine cP [0,2,4,7,8,9] fun f=>?_;refine bB (Af x a w' c opens bound out a0.o aL.o U.o em j nm Z.o aA.o b n.o O P r.o X.o tx s.o T.o V.o l v HR.o (by have:=Y.o;have:=n.o;omega) HV.o _ (fun e f w2 ho=>?_) (fun i R J N f w2 t g d m ha hs A M I=>?_) f) (by kernel_rfl)
  ·have o:=Lh (HE.o (by
    unfold D8;rw [HL.o];rcases e with e|⟨i,e,R⟩
    ·simp only [e]
    ·simp only [e,aV R]) f w2 (xP.of HB.o ho))
   clear e ho;refine vg ?_;exact o.o
  ·have aC:=Lh (HN.o l i (by unfold D8;rw [HL.o];simp only [R,aN J]) N f w2 t g d (HB.o.trans m) ha hs A M I);clear R J N m ha hs A M I;refine vg ?_;exact aC.o
theorem rW (x:PX) (d:Nat) (O:x.raw=false) (b7:SL x d):WN x d:=by
 intro w c opens bound out h aC c6 c1 ha nm c4 c5 p sa sl sc cT a9 c3 em o b0 c8;have d7:=qF a9;subst d7;show Calls prog 60 #[jP x,.agg #[.int .i64 1,aB nm.1,aB nm.2,.slice sa p.length sc,aB [],.int .i64 0],.bool em] w _;obtain ⟨wa,Y⟩:=cY (w.alloc (.cells #[.int .i64 1,aB nm.1,aB nm.2,.slice sa p.length sc,aB [],.int .i64 0] 35));have X:aM (fun _=>False) w wa:=by rw [Y];exact (aM.refl _ w).alloc _
 have bA:aJ wa w.heap.size #[.int .i64 1,aB nm.1,aB nm.2,.slice sa p.length sc,aB [],.int .i64 0] 35:=by rw [Y];exact aJ.new w _ _
 have b1:dZ x d wa c opens bound out:=h.fresh X;have d6:=b1.blk.cell;have L:=bA.cell;have ⟨b8,d0⟩:=cN b1 bA;have dT:=Lh (aE (S:=fun _=>False) a9 X (fun _ _=>id));have d3:=Lh c3;have d1:=Lh (show Below d w wa from aM.below (Below.refl _ w) h.size X (fun i hi=>hi.elim));have b5:=Lh (show d≤w.heap.size∧¬ gE x c w.heap.size from ⟨h.size,fun hb=>Nat.lt_irrefl _ (h.busy hb).2⟩);have ⟨z,HA,a4,a0,a1,a3⟩:=iH aC ha c6 c1 c4 c5;have ⟨dI,b6⟩:=cN cT b7;have aA:=Lh (show ∀ (q:¬ nm=([],bF)),kY o ⟨x.T.drop c.at',opens,bound⟩ (.start nm p) em=match D8 x.space bound nm p with
   | .error e=>.error e
   | .ok (l,m)=>if em then (match fD x.raw x.space ⟨x.T.drop c.at',dV nm::opens,l::bound⟩ nm with
     | .error e=>.error e
     | .ok (t2,s3)=>.ok ([.start (cL x.space (l::bound) nm.1 true,nm.2) m,t2],s3))
    else .ok ([.start (cL x.space (l::bound) nm.1 true,nm.2) m],⟨x.T.drop c.at',dV nm::opens,l::bound⟩) by
  intro q;unfold kY;rw [b0,O,c8];simp only;rw [OE _ _ _ _ q];simp only;cases D8 x.space bound nm p with
  | error e=>rfl
  | ok y=>rfl)
 have V:=Lh (show ∀ l,fD x.raw x.space ⟨x.T.drop c.at',dV nm::opens,l::bound⟩ nm=.ok (.fin (cL x.space (l::bound) nm.1 true,nm.2),⟨x.T.drop c.at',opens,bound⟩) from fun l=>by
  unfold fD;rw [O];simp)
 have d4:=Lh (show nm=([],bF)→kY o ⟨x.T.drop c.at',opens,bound⟩ (.start nm p) em=.error .opn from fun he=>by
  unfold kY nD;rw [b0,O];simp only;rw [aN (by simp),aV he])
 clear h aC c6 c1 ha c4 c5 a9 c3 X bA b1 b7 b0 c8 cT;refine eI 182 func60 [_,_,_] fun f=>?_;simp only [aF];refine vT 1 ?_;rw [←Y];clear Y;refine vg ?_;intro K hK;go_quiet (fail);revert K;refine vT 2 ?_;obtain ⟨wb,b3⟩:=cY (wa.drewN nq);rw [←b3];have M:aM (fun _=>False) wa wb:=by rw [b3];exact (aM.refl _ wa).drewN _
 have j:=Lh (b8.o.fresh M);have n:=Lh (show Below d w wb from aM.below d1.o b8.o.size M (fun _ h=>h.elim));have Z:=Lh (fun (Q:Exit→Act→World→Prop) hE hN f=>Eg x d wb c opens bound out j.o a4.o a0.o em w.heap.size nm a1.o a3.o p dI.o sa sc (aE (S:=fun _=>False) dT.o M (fun _ _=>id)) d3.o (aB []) (d0.o.mod M id) b5.o.1 b5.o.2 Q hE hN f);have hc:=j.o.blk.cell;have hf:=j.o.blk.frozen;clear b3 M d6 L;by_cases B:nm.1=[]
 ·cases h2:(nm.2==[120,109,108,110,115]) with
  | true=>
   have HR:=Lh (d4.o (by obtain ⟨a,b⟩:=nm;simp only at B h2;rw [B,AQ h2]));have HF:=Lh (iL x wb wb c j.o.blk (aM.refl _ _) 2);have h3:nm.1.isEmpty=true:=by rw [B];rfl
   refine vg ?_;intro K hK K hK K hK K hK;refine HF.o.mono ?_;rintro e6 w6 ⟨rfl,c9,bL⟩;have r:=Lh (aM.below n.o j.o.size bL (fun k hk=>by rw [hk];exact j.o.pb));have b9:=Lh (j.o.own c9 bL rfl rfl rfl);clear c9 bL;(repeat revert K);refine vS ?_;intro K hK K hK;refine cO ?_;rw [HR.o];exact ⟨r.o,rfl,_,_,_,b9.o,rfl⟩
  | false=>
   have q:¬ nm=([],bF):=fun hh=>AR h2 (by rw [hh]);have h3:nm.1.isEmpty=true:=by rw [B];rfl
   clear B;have HR:=Lh (aA.o q);clear q;refine vT 5 ?_;intro K hK;refine cP [0,2,4,7,8] fun f=>?_;refine bB (Z.o _ (fun he f w2 ho=>?_) (fun l m hx T f w2 c2 g E hb I hs u P N=>?_) f) (by kernel_rfl)
   ·have HO:=Lh (xP.of n.o ho);have a5:=Lh (HR.o.trans (by rw [he]));clear he ho hc hf;revert K;refine vg ?_;intro K hK;refine cO ?_;rw [a5.o];obtain ⟨W,c7,b4,a8,h8,t⟩:=HO.o;exact ⟨W,rfl,c7,b4,a8,h8,t⟩
   ·obtain ⟨a2,o2,U,D,F⟩:=c2;have J:a2=c.at':=I;subst J;clear I hc hf;have aL:=Lh (n.o.trans hb);have ⟨a7,a6⟩:=cN hs P;have HX:=Lh (HR.o.trans (by rw [hx]));have d5:=Lh T;obtain ⟨A,v⟩:=cY (cL x.space (l::bound) nm.1 true);have s:=Lh v;rw [←v] at u;have L:=u.cell;have C:=Lh (fun (w':World) (B:dZ x d w' ⟨c.at',o2,U,D,F⟩ (dV nm::opens) (l::bound) out) (h2:w'.ownsRow d 68 3 (.slice (some ⟨g,0,none⟩) m.length E) m.length (aR m))=>JR x d w' ⟨c.at',o2,U,D,F⟩ (dV nm::opens) (l::bound) out B (by have:=z.o;omega) ((aO.start (A,nm.2) m).itok []) (some ⟨g,0,none⟩) m.length E 0 h2 (fun k hk=>by
     have bC:g=k:=by simpa [Value.ownBlock] using hk
     rw [←bC];exact N))
    clear hb hs u P hx T v N;revert K;refine vg ?_;intro K hK K hK;refine (C.o _ (by exact a7.o) (by exact a6.o)).mono ?_;rintro e6 w6 ⟨rfl,H,v6,h6⟩;have r:=Lh (aL.o.trans H);have H6:=Lh h6;clear H h6 L;go_simp;cases em with
    | false=>
     (repeat revert K);refine vg ?_;refine cO ?_;rw [HX.o];refine ⟨r.o,rfl,⟨c.at',v6,U,D,F⟩,?_,HA.o,rfl⟩;rw [←s.o];exact H6.o
    | true=>
     have HC:=Lh (b6.o w6 ⟨c.at',v6,U,D,F⟩ (dV nm::opens) (l::bound) _ H6.o (by have:=z.o;rw [fY];simp;omega) (by have:=a4.o;rw [gN];omega) (by rw [gN,gN,a0.o]) HA.o nm a1.o a3.o);(repeat revert K);refine vg ?_;intro K hK K hK K hK;refine HC.o.mono ?_;rintro e7 w7 W;have h8:gG x d out w (.ok ([.start (A,nm.2) m,.fin (A,nm.2)],⟨x.T.drop c.at',opens,bound⟩)) e7 w7:=gG.snoc (a:=c.at') r.o HA.o rfl (by
      have t:=W;rw [show fD x.raw x.space ⟨x.T.drop (⟨c.at',v6,U,D,F⟩:PC).at',dV nm::opens,l::bound⟩ nm=.ok (.fin (A,nm.2),⟨x.T.drop c.at',opens,bound⟩) by rw [s.o];exact V.o l] at t;exact t)
     obtain ⟨t,rfl,G⟩:=h8;have H8:=Lh (show gG x d out w (.ok ([.start (A,nm.2) m,.fin (A,nm.2)],⟨x.T.drop c.at',opens,bound⟩)) (.returned (.bool true)) w7 from ⟨t,rfl,G⟩);clear W t G;(repeat revert K);refine vS ?_;intro K hK;refine cO ?_;have R:=HX.o;simp only [↓reduceIte,V.o] at R;rw [R,←s.o];exact H8.o
 ·have q:¬ nm=([],bF):=fun hh=>B (by rw [hh]);have h3:nm.1.isEmpty=false:=by
   obtain ⟨a,b⟩:=nm;cases a with
   | nil=>exact absurd rfl B
   | cons=>rfl
  clear B;have HR:=Lh (aA.o q);clear q;refine vT 5 ?_;intro K hK;refine cP [0,2,4,7,8] fun f=>?_;refine bB (Z.o _ (fun he f w2 ho=>?_) (fun l m hx T f w2 c2 g E hb I hs u P N=>?_) f) (by kernel_rfl)
  ·have HO:=Lh (xP.of n.o ho);have a5:=Lh (HR.o.trans (by rw [he]));clear he ho hc hf;revert K;refine vg ?_;intro K hK;refine cO ?_;rw [a5.o];obtain ⟨W,c7,b4,a8,h8,t⟩:=HO.o;exact ⟨W,rfl,c7,b4,a8,h8,t⟩
  ·obtain ⟨a2,o2,U,D,F⟩:=c2;have J:a2=c.at':=I;subst J;clear I hc hf;have aL:=Lh (n.o.trans hb);have ⟨a7,a6⟩:=cN hs P;have HX:=Lh (HR.o.trans (by rw [hx]));have d5:=Lh T;obtain ⟨A,v⟩:=cY (cL x.space (l::bound) nm.1 true);have s:=Lh v;rw [←v] at u;have L:=u.cell;have C:=Lh (fun (w':World) (B:dZ x d w' ⟨c.at',o2,U,D,F⟩ (dV nm::opens) (l::bound) out) (h2:w'.ownsRow d 68 3 (.slice (some ⟨g,0,none⟩) m.length E) m.length (aR m))=>JR x d w' ⟨c.at',o2,U,D,F⟩ (dV nm::opens) (l::bound) out B (by have:=z.o;omega) ((aO.start (A,nm.2) m).itok []) (some ⟨g,0,none⟩) m.length E 0 h2 (fun k hk=>by
    have bC:g=k:=by simpa [Value.ownBlock] using hk
    rw [←bC];exact N))
   clear hb hs u P hx T v N;revert K;refine vg ?_;intro K hK K hK;refine (C.o _ (by exact a7.o) (by exact a6.o)).mono ?_;rintro e6 w6 ⟨rfl,H,v6,h6⟩;have r:=Lh (aL.o.trans H);have H6:=Lh h6;clear H h6 L;go_simp;cases em with
   | false=>
    (repeat revert K);refine vg ?_;refine cO ?_;rw [HX.o];refine ⟨r.o,rfl,⟨c.at',v6,U,D,F⟩,?_,HA.o,rfl⟩;rw [←s.o];exact H6.o
   | true=>
    have HC:=Lh (b6.o w6 ⟨c.at',v6,U,D,F⟩ (dV nm::opens) (l::bound) _ H6.o (by have:=z.o;rw [fY];simp;omega) (by have:=a4.o;rw [gN];omega) (by rw [gN,gN,a0.o]) HA.o nm a1.o a3.o);(repeat revert K);refine vg ?_;intro K hK K hK K hK;refine HC.o.mono ?_;rintro e7 w7 W;have h8:gG x d out w (.ok ([.start (A,nm.2) m,.fin (A,nm.2)],⟨x.T.drop c.at',opens,bound⟩)) e7 w7:=gG.snoc (a:=c.at') r.o HA.o rfl (by
     have t:=W;rw [show fD x.raw x.space ⟨x.T.drop (⟨c.at',v6,U,D,F⟩:PC).at',dV nm::opens,l::bound⟩ nm=.ok (.fin (A,nm.2),⟨x.T.drop c.at',opens,bound⟩) by rw [s.o];exact V.o l] at t;exact t)
    obtain ⟨t,rfl,G⟩:=h8;have H8:=Lh (show gG x d out w (.ok ([.start (A,nm.2) m,.fin (A,nm.2)],⟨x.T.drop c.at',opens,bound⟩)) (.returned (.bool true)) w7 from ⟨t,rfl,G⟩);clear W t G;(repeat revert K);refine vS ?_;intro K hK;refine cO ?_;have R:=HX.o;simp only [↓reduceIte,V.o] at R;rw [R,←s.o];exact H8.o
end Go.Proofs.YthapcchcahnfaaaGreatDoor
