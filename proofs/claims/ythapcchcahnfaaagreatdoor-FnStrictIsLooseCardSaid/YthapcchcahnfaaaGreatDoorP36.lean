/- Part of the proof that laws.FnStrictIsLoose, laws.FnUnclosed, laws.FnReaderFails, laws.FnWithin, laws.FnSkip returns true for every argument. No conditions. -/
import Derived.Test.YthapcchcahnfaaaGreatDoorP35
set_option linter.all false
set_option maxHeartbeats 8000000
set_option maxRecDepth 100000
namespace Go.Proofs.YthapcchcahnfaaaGreatDoor
open Go Go.RowKit
theorem Z1:∀ n:Fin 256,(bits .or .u8 (n.val:Int) 32==120)=(fC (UInt8.ofNat n.val)==120)∧(bits .or .u8 (n.val:Int) 32==109)=(fC (UInt8.ofNat n.val)==109)∧(bits .or .u8 (n.val:Int) 32==108)=(fC (UInt8.ofNat n.val)==108):=by decide +kernel
theorem Z2 (b:UInt8):(bits .or .u8 (b.toNat:Int) 32==120)=(fC b==120)∧(bits .or .u8 (b.toNat:Int) 32==109)=(fC b==109)∧(bits .or .u8 (b.toNat:Int) 32==108)=(fC b==108):=by
 have:=Z1 ⟨b.toNat,b.toNat_lt⟩;simpa using this
theorem JW (s:Bs) (w:World):Calls Tryz.prog 56 #[aB s] w fun e w'=>e=.returned (.bool (xV s))∧w'=w:=by
 by_cases i:3≤s.length
 ·obtain ⟨a,b,c,r,g⟩:∃ a b c r,s=a::b::c::r:=by
   match s,i with
   | a::b::c::r,_=>exact ⟨a,b,c,r,rfl⟩
  have m:∀ h,(⟨s.toArray⟩:ByteArray)[0]'h=a:=by rw [g];exact fun h=>rfl
  have n:∀ h,(⟨s.toArray⟩:ByteArray)[1]'h=b:=by rw [g];exact fun h=>rfl
  have o:∀ h,(⟨s.toArray⟩:ByteArray)[2]'h=c:=by rw [g];exact fun h=>rfl
  have d:=Lh (show xV s=((fC a==120)&&(fC b==109)&&(fC c==108)) by
   rw [g];show ([fC a,fC b,fC c]==[120,109,108])=_;cases j:(fC a==120)<;>cases k:(fC b==109)<;>cases l:(fC c==108)<;>simp_all)
  have u:(3:Int)≤(s.length:Int):=by omega
  have z:(0:Int)<(s.length:Int):=by omega
  have A:(1:Int)<(s.length:Int):=by omega
  have B:(2:Int)<(s.length:Int):=by omega
  have v:0<s.length:=by omega
  have x:1<s.length:=by omega
  have y:2<s.length:=by omega
  have p:=(Z2 a).1;have q:=(Z2 b).2.1;have t:=(Z2 c).2.2;cases j:(fC a==120)<;>cases k:(fC b==109)<;>cases l:(fC c==108)
  all_goals
   rw [j] at p d;rw [k] at q d;rw [l] at t d;rw [d.o];clear j k l g d i;refine eI 24 Tryz.func56 [_] fun f=>?_;simp only [aF];refine vg ?_;refine cO ?_;exact ⟨rfl,rfl⟩
 ·have d:=Lh (show xV s=false by
   match s,i with
   | [],_=>rfl
   | [a],_=>unfold xV;simp
   | [a,b],_=>unfold xV;simp
   | a::b::c::r,h=>exact absurd (by simp) h)
  have u:¬ (3:Int)≤(s.length:Int):=by omega
  clear i;refine eI 24 Tryz.func56 [_] fun f=>?_;simp only [aF];refine vg ?_;refine cO ?_;exact ⟨by rw [d.o],rfl⟩
def Ev:Bs:=[118,101,114,115,105,111,110,61,34,49,46,48,34]
def Ew:Bs:=[118,101,114,115,105,111,110,61,39,49,46,48,39]
def dE:List Bs:=[[],[32,101,110,99,111,100,105,110,103,61,34,85,84,70,45,56,34],[32,101,110,99,111,100,105,110,103,61,39,117,116,102,45,56,39]]
def dS:List Bs:=[[],[32,115,116,97,110,100,97,108,111,110,101,61,34,121,101,115,34],[32,115,116,97,110,100,97,108,111,110,101,61,39,110,111,39]]
def GJ (s a b:Bs):Bool:=s==Ev++a++b||s==Ew++a++b
theorem SG (s:Bs):kW.contains s=dE.any fun a=>dS.any fun b=>GJ s a b:=by
 rw [Bool.eq_iff_iff];show (dE.flatMap fun a=>dS.flatMap fun b=>[Ev++a++b,Ew++a++b]).contains s=true↔_;simp only [List.contains_iff_mem,List.mem_flatMap,mH,xZ,or_false,List.any_eq_true,GJ,Bool.or_eq_true,beq_iff_eq]
abbrev Dp:Array Value:=#[.string ⟨#[]⟩,.string ⟨#[32,101,110,99,111,100,105,110,103,61,34,85,84,70,45,56,34]⟩,.string ⟨#[32,101,110,99,111,100,105,110,103,61,39,117,116,102,45,56,39]⟩]
abbrev Fv:Array Value:=#[.string ⟨#[]⟩,.string ⟨#[32,115,116,97,110,100,97,108,111,110,101,61,34,121,101,115,34]⟩,.string ⟨#[32,115,116,97,110,100,97,108,111,110,101,61,39,110,111,39]⟩]
theorem Z3:∀ i,i<3→∃ a,dE[i]?=some a∧Dp[i]?=some (aB a)∧a.length≤100
 | 0,_=>⟨_,rfl,rfl,by decide⟩
 | 1,_=>⟨_,rfl,rfl,by decide⟩
 | 2,_=>⟨_,rfl,rfl,by decide⟩
theorem Z4:∀ i,i<3→∃ a,dS[i]?=some a∧Fv[i]?=some (aB a)∧a.length≤100
 | 0,_=>⟨_,rfl,rfl,by decide⟩
 | 1,_=>⟨_,rfl,rfl,by decide⟩
 | 2,_=>⟨_,rfl,rfl,by decide⟩
def Gn (s:Bs) (g1:Nat) (w0:World) (k:Nat) (c:Act) (w:World):Prop:=
 ∃ f i,c=fr 35 f [(0,aB s),(7,.slice (some ⟨g1,0,none⟩) 3 3),(8,.int .i64 3),(9,.int .i64 (i:Nat))]∧aJ w g1 Dp 9∧aM (fun _=>False) w0 w∧k=3-i∧i≤3∧((dE.take i).any fun a=>dS.any fun b=>GJ s a b)=false
def Gp (s:Bs) (g1 d:Nat) (i:Nat) (a:Bs) (w0:World) (k:Nat) (c:Act) (w:World):Prop:=
 ∃ f j,c=fr 35 f [(0,aB s),(4,aB a),(7,.slice (some ⟨g1,0,none⟩) 3 3),(8,.int .i64 3),(9,.int .i64 (i:Nat)),(13,.slice (some ⟨d,0,none⟩) 3 3),(14,.int .i64 3),(15,.int .i64 (j:Nat))]∧w0=w∧k=3-j∧j≤3∧((dS.take j).any fun b=>GJ s a b)=false
theorem GK {α:Type} {l:List α} {i:Nat} {a:α} {p:α→Bool} (h:l[i]?=some a) (b:(l.take i).any p=false) (c:p a=false):(l.take (i+1)).any p=false:=by
 rw [List.take_add_one,h,List.any_append,b];simp [c]
theorem Z5 (s:Bs) (w:World):Calls Tryz.prog 57 #[aB s] w fun e w'=>e=.returned (.bool (kW.contains s))∧aM (fun _=>False) w w':=by
 obtain ⟨wa,o⟩:=cY (w.alloc (.cells Dp 9));have z:aJ wa w.heap.size Dp 9:=by rw [o];exact aJ.new w _ _
 have O:=Lh (show aM (fun _=>False) w wa by rw [o];exact (aM.refl _ w).alloc _);obtain ⟨g1,B⟩:=cY w.heap.size;rw [←B] at z;have L:=Lh z;have N:=Lh (SG s);clear z;refine eI 35 Tryz.func57 [_] fun f=>?_;simp only [aF];refine vg ?_;intro K hK;rw [←o,←B];clear o B;refine cP [0,7,8,9] fun f=>?_;refine wp_loop_ghost_k (Gn s g1 w) 3 ⟨f,0,rfl,L.o,O.o,rfl,by omega,rfl⟩ ?_;rintro k _ w2 ⟨f,i,rfl,hb,hm,hk,hi,t⟩ J K2 hJ R;have ⟨HJ,a0,HB,HM,HK,q⟩:=iH hJ R hb hm hk t;clear hJ R hb hm hk t L O;by_cases Z:i<3
 ·have t0:(0:Int)≤(i:Int):=by omega
  have t1:(i:Int)<3:=by omega
  obtain ⟨a,ha,T,U⟩:=Z3 i Z;have a7:w2.cell? ⟨g1,i,none⟩=some (aB a):=by rw [HB.o.cell];exact T
  obtain ⟨wb,l⟩:=cY (w2.alloc (.cells Fv 9));have A:aJ wb w2.heap.size Fv 9:=by rw [l];exact aJ.new w2 _ _
  have aA:=Lh (show aJ wb g1 Dp 9 by rw [l];exact HB.o.alloc _);have x:=Lh (show aM (fun _=>False) w wb by rw [l];exact HM.o.alloc _);obtain ⟨g2,C⟩:=cY w2.heap.size;rw [←C] at A;have ⟨aC,v,I⟩:=mJ A U ha;clear A U ha T;revert K;refine vg ?_;intro K hK K hK;rw [←l,←C];clear l C a7;refine cP [0,4,7,8,9,13,14,15] fun f=>?_;refine wp_loop_ghost_k (Gp s g1 g2 i a wb) 3 ⟨f,0,rfl,rfl,rfl,by omega,rfl⟩ ?_;rintro k5 _ w5 ⟨f,j,rfl,rfl,Y,hj,g⟩ J5 K5 Q S;have ⟨aL,a2,a5,c⟩:=kV Q S Y g;clear Q S Y g;by_cases u:j<3
  ·have u0:(0:Int)≤(j:Int):=by omega
   have u1:(j:Int)<3:=by omega
   obtain ⟨b,W,V,a6⟩:=Z4 j u;have bL:wb.cell? ⟨g2,j,none⟩=some (aB b):=by rw [aC.o.cell];exact V
   have wj:IntKind.i64.wrap ((j:Int)+1)=((j+1:Nat):Int):=by rw [IntKind.wrap_i64];omega
   obtain ⟨G,m⟩:=cY (Ev++a);obtain ⟨H,n⟩:=cY (Ew++a);obtain ⟨q1,E⟩:=cY (G++b);obtain ⟨q2,F⟩:=cY (H++b);have c1:(⟨#[118,101,114,115,105,111,110,61,34,49,46,48,34]⟩:ByteArray)++⟨a.toArray⟩=⟨G.toArray⟩:=by rw [m];exact gF Ev a
   have c2:(⟨#[118,101,114,115,105,111,110,61,39,49,46,48,39]⟩:ByteArray)++⟨a.toArray⟩=⟨H.toArray⟩:=by rw [n];exact gF Ew a
   have c3:(⟨G.toArray⟩:ByteArray)++⟨b.toArray⟩=⟨q1.toArray⟩:=by rw [E];exact gF G b
   have c4:(⟨H.toArray⟩:ByteArray)++⟨b.toArray⟩=⟨q2.toArray⟩:=by rw [F];exact gF H b
   have bA:G.length=13+a.length:=by rw [m,fY];rfl
   have bC:H.length=13+a.length:=by rw [n,fY];rfl
   have a1:¬ 9223372036854775807<13+a.length:=by have:=v.o;omega
   have a3:¬ 9223372036854775807<G.length+b.length:=by have:=v.o;omega
   have a4:¬ 9223372036854775807<H.length+b.length:=by have:=v.o;omega
   have d:=Lh (show GJ s a b=(s==q1||s==q2) by rw [E,F,m,n];rfl);have M:=Lh W;clear W V a6 m n E F bA bC;have r:=Lh (show GJ s a b=true→kW.contains s=true from fun h=>by
    rw [N.o,List.any_eq_true];refine ⟨a,List.mem_of_getElem? I.o,?_⟩;rw [List.any_eq_true];exact ⟨b,List.mem_of_getElem? M.o,h⟩)
   cases D:(s==q1) with
   | true=>
    have P:=Lh (r.o (by rw [d.o,D];rfl));(repeat revert K);refine vg ?_;intro K hK K hK K hK;refine cO ?_;exact ⟨by rw [P.o],x.o⟩
   | false=>
    cases X:(s==q2) with
    | true=>
     have P:=Lh (r.o (by rw [d.o,D,X];rfl));(repeat revert K);refine vg ?_;intro K hK K hK K hK;refine cO ?_;exact ⟨by rw [P.o],x.o⟩
    | false=>
     have y:=Lh (GK (p:=fun b=>GJ s a b) M.o c.o (by rw [d.o,D,X];rfl));(repeat revert K);refine vg ?_;intro K hK K hK;refine Kk [0,4,7,8,9,13,14,15] fun f=>?_;exact a2.o _ _ ⟨3-(j+1),by rw [a5.o];omega,aL.o _ _ _ ⟨f,j+1,rfl,rfl,rfl,u,y.o⟩⟩
  ·have a9:j=3:=by omega
   subst a9;have wi:IntKind.i64.wrap ((i:Int)+1)=((i+1:Nat):Int):=by rw [IntKind.wrap_i64];omega
   have y:=Lh (GK (p:=fun a=>dS.any fun b=>GJ s a b) I.o q.o c.o);(repeat revert K);refine vg ?_;intro K hK;refine Kk [0,7,8,9] fun f=>?_;exact a0.o _ _ ⟨3-(i+1),by rw [HK.o];omega,HJ.o _ _ _ ⟨f,i+1,rfl,aA.o,x.o,rfl,Z,y.o⟩⟩
 ·have a8:i=3:=by omega
  subst a8;have P:=Lh (show kW.contains s=false by rw [N.o];exact q.o);revert K;refine vg ?_;refine cO ?_;exact ⟨by rw [P.o],HM.o⟩
def Dq (x:PX) (c:PC) (e:Bs) (d:Bool) (EP:Nat) (w0:World) (k:Nat) (b:Act) (w:World):Prop:=
 ∃ f a,b=fr 92 f [(0,jP x),(3,.bool ((c.at':Int)==2)),(4,aB e),(6,.bool d),(7,.int .i64 (EP:Nat))]∧aY x w { c with at':=a }∧aM (fun k=>k=x.p) w0 w∧k=x.T.length-a∧a≤x.T.length∧EP≤a∧mD x.T [63,62] EP a
def LQ (opens:List Bs) (bound:List aP) (r:Except SV ((Bs×Bs)×Bs)):Except SV (List aO×hZ):=match r with
 | .error e=>.error e
 | .ok (p,r)=>.ok ([.proc p.1 p.2],⟨r,opens,bound⟩)
theorem SH (x:PX) (hT:x.T.length≤1000000000) (O:Nat) (w:World) (c:PC) (opens:List Bs) (bound:List aP) (out:List cD) (h:dZ x O w c opens bound out) (aL:out.length≤1000000000) (ha:c.at'≤x.T.length) :
  Calls Tryz.prog 28 #[jP x] w (gG x O out w (LQ opens bound (fV (c.at'==2) (x.T.drop c.at')))):=by
 have hc:=h.blk.cell;have hf:=h.blk.frozen;have ⟨H,HT,HA,b5⟩:=kV h hT ha aL;have c2:=Lh (DO x hT w c h.blk ha);have N:=Lh (rT (x.T.drop c.at'))
 have V:=Lh (show fV (c.at'==2) (x.T.drop c.at')=if bJ (aD (x.T.drop c.at')).1=1 then .error .bad
  else if eU (aD (x.T.drop c.at')).1=false then .error .opn
  else match dY [63,62] (aT (aD (x.T.drop c.at')).2) with
   | none=>.error .bad
   | some (s,r)=>
    if l7 s=false∨(s≠[]∧(aT (aD (x.T.drop c.at')).2).length=(aD (x.T.drop c.at')).2.length)∨(xV (aD (x.T.drop c.at')).1=true∧¬ ((c.at'==2)=true∧(aD (x.T.drop c.at')).1=nA∧kW.contains s=true)) then .error .opn
    else .ok (((aD (x.T.drop c.at')).1,s),r) from rfl)
 clear h hT ha aL;refine eI 92 Tryz.func28 [_] fun f=>?_;simp only [aF];refine vg ?_;intro K hK K hK;refine c2.o.mono ?_;rintro e1 w1 ⟨C,rfl,bC,c7,T,aA,d0⟩;have b7:=Lh (show aY x w1 { c with at':=C } from bC);have ⟨a4,d7,d4⟩:=mJ c7 T aA;obtain ⟨n,b0⟩:=cY ((aD (x.T.drop c.at')).1);rw [d0,←b0] at V;rw [←b0] at N ⊢;have c1:=Lh (show n.length≤1000000000 by have h1:=N.o;have h2:=HT.o;rw [eY] at h1;omega);have e9:=Lh (fun w=>qH n c1.o w);have d5:=Lh (fun w=>wL n c1.o w);have b1:=Lh (m9 x HT.o w1 { c with at':=C } bC T);have b3:=Lh (fun (w':World) (h1:aY x w' { c with at':=C }) (h2:aM (fun k=>k=x.p) w w') (v:Int)=>iL x w w' { c with at':=C } h1 h2 v);clear bC c7 T aA d0 b0 c2 hc hf N;(repeat revert K);refine vS ?_;intro K hK K hK K hK;refine (e9.o _).mono ?_;rintro e2 w2 ⟨rfl,rfl⟩;go_simp;by_cases R:bJ n=1
 ·have z:=Lh (V.o.trans (aV R));rw [R];clear R;(repeat revert K);refine vg ?_;intro K hK K hK K hK;refine (b3.o _ (by exact b7.o) (by exact eX a4.o rfl rfl rfl rfl) _).mono ?_;rintro X Y ⟨rfl,e,d⟩;have ⟨i,g⟩:=cN e d;clear e d;(repeat revert K);refine vS ?_;intro K hK;refine cO ?_;exact gG.err (w1:=w) (k:=.bad) H.o i.o g.o (by rw [z.o];rfl)
 have f5:((bJ n:Int)==1)=false:=by rw [lV];omega
 have L:=Lh (V.o.trans (aN R));clear R V;(repeat revert K);refine vg ?_;intro K hK K hK K hK;refine (d5.o _).mono ?_;rintro e3 U ⟨rfl,rfl⟩;go_simp;cases a8:eU n with
 | false=>
  have z:=Lh (L.o.trans (aV a8));(repeat revert K);refine vg ?_;intro K hK K hK K hK;refine (b3.o _ (by exact b7.o) (by exact eX a4.o rfl rfl rfl rfl) _).mono ?_;rintro X Y ⟨rfl,e,d⟩;have ⟨i,g⟩:=cN e d;clear e d;(repeat revert K);refine vS ?_;intro K hK;refine cO ?_;exact gG.err (w1:=w) (k:=.opn) H.o i.o g.o (by rw [z.o];rfl)
 | true=>
  have M:=Lh (L.o.trans (aN (by rw [a8];simp)));clear L a8;(repeat revert K);refine vg ?_;intro K hK K hK;refine b1.o.mono ?_;rintro e4 w4 ⟨t,rfl,c9,c8,aC,Q,d1⟩;have a5:=Lh (show aY x w4 { c with at':=t } from c9);have e0:=Lh (a4.o.trans c8 (fun _ _ h=>h));have d8:=Lh aC;rw [show aT (x.T.drop C)=x.T.drop t from d1,eY,eY] at M;have cT:=Lh (show (x.T.length-t=x.T.length-C)↔¬ C<t by have:C≤t:=Q;have:=d7.o;omega);have f4:=Lh (show c.at'≤t by have:C≤t:=Q;have:=d4.o;omega);obtain ⟨sp,bL⟩:=cY (decide (C<t));have a0:decide ((({ c with at':=C }:PC).at':Int)<(t:Int))=sp:=by rw [bL];simp
  rw [a0];have b9:=Lh bL;clear c9 c8 aC Q d1 b1 bL a0;have hc:=a5.o.cell;have hf:=a5.o.frozen;(repeat revert K);refine vS ?_;intro K hK;refine cP [0,3,4,6,7] fun f=>?_;refine wp_loop_ghost_k (Dq x c n sp t w) (x.T.length-t) ⟨f,t,rfl,a5.o,e0.o,rfl,d8.o,dD _,mD.start _ _ _⟩ ?_;clear hc hf;rintro k _ w2 ⟨f,a,rfl,hp,hm,hk,c6,c4,hcut⟩ J K2 hJ c3;have ⟨HJ,d6,HP,HM,HK,W⟩:=iH hJ c3 hp hm hk c6;have ⟨a3,G⟩:=cN c4 hcut;clear hJ c3 hp hm hk c6 c4 hcut;cases l:([63,62]:Bs).isPrefixOf (x.T.drop a) with
  | true=>
   have HH:=Lh (jA x HT.o w2 { c with at':=a } HP.o W.o [63,62] (by decide) l);have d9:=Lh (lI l (by decide));have E:=Lh (G.o.hit l d9.o);have b4:=Lh (show a+2≤x.T.length from oU l W.o);clear l;revert K;refine vg ?_;intro K hK K hK K hK K hK;refine HH.o.mono ?_;rintro e3 U ⟨rfl,q,y⟩;have j:=Lh (show aY x U { c with at':=a+2 } from q);have o:=Lh (HM.o.trans y (fun _ _ h=>h));clear q y HH;go_simp;have hc:=j.o.cell;have hf:=j.o.frozen;have z1:(0:Int)≤(t:Int):=by omega
   have f3:IntKind.i64.wrap (a:Int)=(a:Int):=by rw [IntKind.wrap_i64];have h8:=b4.o;have h9:=HT.o;omega
   have z2:(t:Int)≤(a:Int):=by have:=a3.o;omega
   have z3:(a:Int)≤(x.T.length:Int):=by have:=W.o;omega
   (repeat revert K);refine vg ?_;intro K hK;(refine lX [0,0,0,1,0,0,0,0,1,0,0,0] [0,1,2,3,4,5,6,7,8,9,10,11] ?_;refine vP ?_;repeat with_reducible intro nq)
   rw [lD];obtain ⟨s,hs⟩:=cY ((x.T.drop t).take (a-t));rw [←hs];rw [←hs] at E;have N:=Lh (show s.length≤1000000000 by rw [hs,qQ,eY];have:=HT.o;omega);clear hs hc hf z1 z2 z3 f3;have HV:=Lh (fun w=>JS s N.o w);have f0:=Lh (fun w=>JW n w);have a7:=fun w=>Z5 s w;obtain ⟨db,a6⟩:∃ b,b=kW.contains s:=⟨_,rfl⟩;rw [←a6] at a7;have ⟨d2,b2⟩:=cN a7 a6;clear a7 a6;have B:=Lh (show fV (c.at'==2) (x.T.drop c.at')=if l7 s=false∨(s≠[]∧¬ C<t)∨(xV n=true∧¬ ((c.at'==2)=true∧n=nA∧kW.contains s=true)) then .error .opn else .ok ((n,s),x.T.drop (a+2)) by
    rw [M.o,E.o];simp only [cT.o];rfl)
   have I:=Lh (fun (w':World) (h1:aY x w' { c with at':=a+2 }) (h2:aM (fun k=>k=x.p) w w') (v:Int)=>iL x w w' { c with at':=a+2 } h1 h2 v);have Z:=Lh (fun (hr:fV (c.at'==2) (x.T.drop c.at')=.ok ((n,s),x.T.drop (a+2))) (w5:World) (h1:aY x w5 { c with at':=a+2 }) (h2:aM (fun k=>k=x.p) w w5)=>sK x O w w5 c opens bound out H.o b5.o (a+2) b4.o h1 h2 (.proc n s) rfl (LQ opens bound (fV (c.at'==2) (x.T.drop c.at'))) (by rw [hr];rfl));revert K;refine vg ?_;intro K hK K hK K hK;refine (HV.o _).mono ?_;rintro e5 w5 ⟨rfl,rfl⟩;go_simp;cases hv:l7 s with
   | false=>
    have z:=Lh (B.o.trans (aV (aH hv)));(repeat revert K);refine vg ?_;intro K hK K hK K hK;refine (I.o _ (by exact j.o) (by exact eX o.o rfl rfl rfl rfl) _).mono ?_;rintro X Y ⟨rfl,e,d⟩;have ⟨i,g⟩:=cN e d;clear e d;(repeat revert K);refine vS ?_;intro K hK;refine cO ?_;exact gG.err (w1:=w) (k:=.opn) H.o i.o g.o (by rw [z.o];rfl)
   | true=>
    by_cases m:s≠[]∧¬ C<t
    ·have z:=Lh (B.o.trans (aV (aW (aH m))));have c5:s.isEmpty=false:=by cases s with
      | nil=>exact absurd rfl m.1
      | cons=>rfl
     have dT:sp=false:=b9.o.trans (decide_eq_false m.2);clear m;subst dT;(repeat revert K);refine vg ?_;intro K hK K hK K hK;refine (I.o _ (by exact j.o) (by exact eX o.o rfl rfl rfl rfl) _).mono ?_;rintro X Y ⟨rfl,e,d⟩;have ⟨i,g⟩:=cN e d;clear e d;(repeat revert K);refine vS ?_;intro K hK;refine cO ?_;exact gG.err (w1:=w) (k:=.opn) H.o i.o g.o (by rw [z.o];rfl)
    have u:=Lh (show fV (c.at'==2) (x.T.drop c.at')=if (xV n=true∧¬ ((c.at'==2)=true∧n=nA∧kW.contains s=true)) then .error .opn else .ok ((n,s),x.T.drop (a+2)) by
     rw [B.o];by_cases hq:(xV n=true∧¬ ((c.at'==2)=true∧n=nA∧kW.contains s=true))
     ·rw [aV hq,aV (aW (aW hq))]
     ·rw [aN hq,aN (fun F=>Or.elim F (fun h=>by rw [hv] at h;cases h) (fun h=>Or.elim h m hq))])
    have a9:(s.isEmpty=true)∨(s.isEmpty=false∧sp=true):=by
     cases dI:s.isEmpty with
     | true=>exact aH rfl
     | false=>
      refine aW ⟨rfl,?_⟩;rw [b9.o,decide_eq_true_iff];by_cases h9:C<t
      ·exact h9
      ·exact absurd ⟨fun h=>(by rw [h] at dI;cases dI),h9⟩ m
    clear m B;rcases a9 with c5|⟨c5,f1⟩
    all_goals
     try subst f1
     (repeat revert K);refine vg ?_;intro K hK K hK K hK;refine (f0.o _).mono ?_;rintro e7 w7 ⟨rfl,rfl⟩;go_simp;cases D:xV n with
     | false=>
      (repeat revert K);refine vg ?_;intro K hK K hK;refine (Z.o (u.o.trans (aN (fun F=>by rw [D] at F;exact Bool.noConfusion F.1))) _ (by exact j.o) (by exact eX o.o rfl rfl rfl rfl)).mono ?_;rintro X Y ⟨rfl,h6⟩;have H6:=Lh h6;clear h6;(repeat revert K);refine vS ?_;refine cO ?_;exact H6.o
     | true=>
      by_cases P:c.at'=2
      ·have e2:((c.at':Int)==2)=true:=by rw [P];rfl
       have d3:=Lh P;clear P;by_cases hx:n=nA
       ·have f2:(n==[120,109,108])=true:=by rw [hx];rfl
        have HX:=Lh hx;clear hx;(repeat revert K);refine vg ?_;intro K hK K hK K hK;refine (d2.o _).mono ?_;rintro e8 w8 ⟨rfl,A⟩;have b6:=Lh (show aM (fun k=>k=x.p) w w8 from aM.trans (o.o.drewN _) A (fun _ _ h=>False.elim h));have b8:=Lh (show aY x w8 { c with at':=a+2 } from aJ.mod (S:=fun _=>False) j.o ⟨A.os,A.tape,A.output,A.size,A.block⟩ id);clear A;go_simp;cases db with
        | true=>
         have hd:kW.contains s=true:=b2.o.symm;have HD:=Lh hd;clear hd;(repeat revert K);refine vg ?_;intro K hK K hK;refine (Z.o (u.o.trans (aN (fun F=>F.2 ⟨(by rw [d3.o];rfl),HX.o,HD.o⟩))) _ b8.o b6.o).mono ?_;rintro X Y ⟨rfl,h6⟩;have H6:=Lh h6;clear h6;(repeat revert K);refine vS ?_;refine cO ?_;exact H6.o
        | false=>
         have hd:kW.contains s=false:=b2.o.symm;have z:=Lh (u.o.trans (aV ⟨D,fun F=>by rw [hd] at F;exact Bool.noConfusion F.2.2⟩));clear hd;(repeat revert K);refine vg ?_;intro K hK K hK K hK;refine (I.o _ b8.o b6.o _).mono ?_;rintro X Y ⟨rfl,e,d⟩;have ⟨i,g⟩:=cN e d;clear e d;(repeat revert K);refine vS ?_;intro K hK;refine cO ?_;exact gG.err (w1:=w) (k:=.opn) H.o i.o g.o (by rw [z.o];rfl)
       ·have f2:(n==[120,109,108])=false:=by rw [lV];exact hx
        have z:=Lh (u.o.trans (aV ⟨D,fun F=>hx F.2.1⟩));clear hx;(repeat revert K);refine vg ?_;intro K hK K hK K hK;refine (I.o _ (by exact j.o) (by exact eX o.o rfl rfl rfl rfl) _).mono ?_;rintro X Y ⟨rfl,e,d⟩;have ⟨i,g⟩:=cN e d;clear e d;(repeat revert K);refine vS ?_;intro K hK;refine cO ?_;exact gG.err (w1:=w) (k:=.opn) H.o i.o g.o (by rw [z.o];rfl)
      ·have e2:((c.at':Int)==2)=false:=by rw [lV];omega
       have z:=Lh (u.o.trans (aV ⟨D,fun F=>P (beq_iff_eq.1 F.1)⟩));clear P;(repeat revert K);refine vg ?_;intro K hK K hK K hK;refine (I.o _ (by exact j.o) (by exact eX o.o rfl rfl rfl rfl) _).mono ?_;rintro X Y ⟨rfl,e,d⟩;have ⟨i,g⟩:=cN e d;clear e d;(repeat revert K);refine vS ?_;intro K hK;refine cO ?_;exact gG.err (w1:=w) (k:=.opn) H.o i.o g.o (by rw [z.o];rfl)
  | false=>
   have HH:=Lh (iM x HT.o w2 { c with at':=a } HP.o W.o [63,62] (by decide) l);by_cases bA:a<x.T.length
   ·have E:=Lh (G.o.next a3.o l bA);clear l;revert K;refine vg ?_;intro K hK K hK K hK K hK;refine HH.o.mono ?_;rintro e3 U ⟨rfl,q,y⟩;have j:=Lh q;have o:=Lh (HM.o.trans y (fun _ _ h=>h));have HE:=Lh (oS x U { c with at':=a } q bA);clear q y HH;(repeat revert K);refine vS ?_;intro K hK K hK K hK K hK;refine HE.o.mono ?_;rintro e4 w4 ⟨rfl,k4,rfl⟩;have hc:=(show aY x (U.drewN k4) { c with at':=a } from j.o).cell;have hf:=(show aY x (U.drewN k4) { c with at':=a } from j.o).frozen;have w1:IntKind.i64.wrap ((a:Int)+1)=((a+1:Nat):Int):=by rw [IntKind.wrap_i64];have:=HT.o;omega
    (repeat revert K);refine vS ?_;intro K hK;refine Kk [0,3,4,6,7] fun f=>?_;refine d6.o _ _ ⟨x.T.length-(a+1),by rw [HK.o];omega,HJ.o _ _ _ ⟨f,a+1,rfl,?_,aM.setCell (S:=fun k=>k=x.p) (o.o.drewN _) (p:=⟨x.p,1,none⟩) (aH rfl) _,rfl,bA,by have:=a3.o;omega,E.o⟩⟩;exact aJ.set (w:=U.drewN _) (cs:=gA x { c with at':=a }) j.o 1 _
   ·have E:=Lh (G.o.none (by omega));have z:=Lh (show fV (c.at'==2) (x.T.drop c.at')=.error .bad by rw [M.o,E.o]);clear l;revert K;refine vg ?_;intro K hK K hK K hK K hK;refine HH.o.mono ?_;rintro e3 U ⟨rfl,q,y⟩;have j:=Lh q;have o:=Lh (HM.o.trans y (fun _ _ h=>h));have HE:=Lh (oR x U { c with at':=a } q (by simp;omega));clear q y HH;(repeat revert K);refine vS ?_;intro K hK K hK K hK K hK;refine HE.o.mono ?_;rintro e4 w4 ⟨rfl,k4,rfl⟩;have HF:=Lh (lZ x (U.drewN k4) { c with at':=a } j.o 1);(repeat revert K);refine vS ?_;intro K hK K hK K hK K hK;refine HF.o.mono ?_;rintro X Y ⟨rfl,e,d⟩;have ⟨i,g⟩:=cN e d;clear e d;(repeat revert K);refine vS ?_;intro K hK K hK;refine cO ?_;exact gG.err (w1:=w) (k:=.bad) H.o i.o ((o.o.drewN _).trans g.o (fun _ _ h=>h)) (by rw [z.o];rfl)
end Go.Proofs.YthapcchcahnfaaaGreatDoor
