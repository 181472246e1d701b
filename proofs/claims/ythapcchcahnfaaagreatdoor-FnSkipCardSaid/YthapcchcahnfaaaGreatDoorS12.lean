/- Part of the proof that laws.FnSkip returns true for every argument. No conditions. -/
import Derived.Test.YthapcchcahnfaaaGreatDoorS10
import Derived.Test.YthapcchcahnfaaaGreatDoorS11
import Derived.Shelf.Unicode.PredsPay
import Derived.Lib.SlBytesRow
import Derived.Laws.ResultCell
set_option linter.all false
set_option maxHeartbeats 8000000
set_option maxRecDepth 100000
namespace Go.Proofs.YthapcchcahnfaaaGreatDoor
open Go Go.RowKit Go.Proofs.Tryz
theorem xE:∀ (T:List Lib.Rg) (i:Nat),i<T.length→∀ j,j<3→(T.flatMap fun r=>[Value.int .u16 r.1,.int .u16 r.2.1,.int .u16 r.2.2])[i*3+j]?=([Value.int .u16 (T.getD i (0,0,0)).1,.int .u16 (T.getD i (0,0,0)).2.1,.int .u16 (T.getD i (0,0,0)).2.2])[j]?
 | [],i,a,_,_=>by simp at a
 | r::T,0,_,j,b=>by
  simp only [List.flatMap_cons,Nat.zero_mul,Nat.zero_add];rw [List.getElem?_append_left (by simpa using b)];simp
 | r::T,i+1,a,j,b=>by
  simp only [List.flatMap_cons];rw [CQ (by simp;omega),show (i+1)*3+j-[Value.int .u16 r.1,.int .u16 r.2.1,.int .u16 r.2.2].length=i*3+j by simp;omega,xE T i (by simpa using a) j b];simp
theorem M7 (T:Lib.RTab) (a:T.r32=#[]) (c:T.off=0) (w:World):Lib.RTabAt (w.alloc (.cells (lE T.r16) 248)).heap.size 0 T (oD T w):=by
 have d:aL (oD T w) (w.alloc (.cells (lE T.r16) 248)).heap.size #[.slice (some ⟨w.heap.size,0,none⟩) T.r16.size T.r16.size,.slice none 0 0,.int .i64 0] 245:=aL.new _ _ _;have f:aL (oD T w) w.heap.size (lE T.r16) 248:=(aL.new w (lE T.r16) _).alloc _;refine ⟨some ⟨w.heap.size,0,none⟩,none,w.heap.size,0,T.r16.size,0,0,0,by rw [d.cell];rfl,by rw [d.cell,a];rfl,by rw [d.cell,c];rfl,fun _=>rfl,fun h=>by rw [a] at h;simp at h,?_,fun i b=>by rw [a] at b;simp at b,dF _⟩;intro i b;have k:i<T.r16.toList.length:=by simpa using b
 have e:=fun j l=>xE T.r16.toList i k j l;have g:T.r16.toList.getD i (0,0,0)=T.r16.getD i (0,0,0):=by simp [Array.getD,rF,b]
 rw [g] at e;refine ⟨?_,?_,?_⟩
 ·rw [f.cell];have:=e 0 (by omega);simpa [lE] using this
 ·rw [f.cell];have:=e 1 (by omega);simpa [lE,Nat.add_assoc] using this
 ·rw [f.cell];have:=e 2 (by omega);simpa [lE,Nat.add_assoc] using this
theorem wE (B:Nat) (T:Array Lib.Rg) (h:T.toList.all (fun r=>decide (r.1<B)&&decide (r.2.1<B)&&decide (r.2.2<B)&&decide (1≤r.2.2))=true):Lib.RgOk B T:=by
 intro i a;have b:T.getD i (0,0,0)∈T.toList:=by simp [Array.getD,a]
 have:=List.all_eq_true.1 h _ b;simp only [FI,IC] at this;exact ⟨this.1.1.1,this.1.1.2,this.1.2,this.2⟩
theorem M8:Lib.RTabOk iO:=⟨wE _ _ (by kernel_rfl),wE _ _ rfl,by show (iO.r16.size≤_);rw [show iO.r16.size=190 by kernel_rfl];omega,by show (0:Nat)≤_;omega,by show (0:Nat)<_;omega,by show (0:Nat)≤_;omega⟩
theorem J1:Lib.RTabOk iY:=⟨wE _ _ (by kernel_rfl),wE _ _ rfl,by show (iY.r16.size≤_);rw [show iY.r16.size=112 by kernel_rfl];omega,by show (0:Nat)≤_;omega,by show (0:Nat)<_;omega,by show (0:Nat)≤_;omega⟩
theorem pR (T:Lib.RTab) (w:World):Below w.heap.size w (oD T w):=((Below.refl w.heap.size w).alloc (dF _) _).alloc (by simp) _
theorem RG (w:World):Calls prog 118 #[] w fun e w'=>∃ a,e=.returned (.pointer (some ⟨a,0,none⟩))∧Lib.RTabAt a 0 iO w'∧Below w.heap.size w w':=
 (RF w).mono fun e w' ⟨c,b⟩=>⟨_,c,by rw [b];exact M7 _ rfl rfl w,by rw [b];exact pR _ w⟩
theorem M9 (w:World):Calls prog 119 #[] w fun e w'=>∃ a,e=.returned (.pointer (some ⟨a,0,none⟩))∧Lib.RTabAt a 0 iY w'∧Below w.heap.size w w':=
 (M6 w).mono fun e w' ⟨c,b⟩=>⟨_,c,by rw [b];exact M7 _ rfl rfl w,by rw [b];exact pR _ w⟩
def bJ (w:World) (b a:Nat) (l:Bs):Prop:=∀ j,j<l.length→w.cell? ⟨b,a+j,none⟩=some (.int .u8 (l.getD j 0).toNat)
theorem bJ.below {w w':World} {b a:Nat} {l:Bs} (h:bJ w b a l) (c:Below w.heap.size w w'):bJ w' b a l:=fun j d=>cell_below c (h j d)
theorem bJ.drop {w:World} {b a:Nat} {l:Bs} (h:bJ w b a l) (n:Nat):bJ w b (a+n) (l.drop n):=by
 intro j c;simp only [eC] at c;have:=h (n+j) (by omega);rw [←Nat.add_assoc] at this;rw [this];simp [rF,List.getElem?_drop]
theorem NA (l:Bs) (b a c:Nat) (w:World) (g:Lib.Utf8Tabs 6 7 w) (h:bJ w b a l) :
  Calls prog 99 #[.slice (some ⟨b,a,none⟩) l.length c] w fun e w'=>e=.returned (.tuple #[.int .i32 (dB l).1,.int .i64 (dB l).2])∧Below w.heap.size w w':=by
 have f:(⟨l.toArray⟩:ByteArray).size=l.length:=rfl;have:=BL ⟨l.toArray⟩ b a c w g (fun j d=>by
  rw [f] at d;rw [h j d];have:(⟨l.toArray⟩:ByteArray).get! j=l.getD j 0:=by simp [ByteArray.get!,rF,d]
  rw [this])
 rw [f] at this;exact this
theorem pS (l:Bs) (h:l≠[]):1≤(dB l).2:=by
 have:(⟨l.toArray⟩:ByteArray).size=l.length:=rfl;have a:l.length≠0:=by simpa using h
 unfold dB Lib.decodeGoB;rw [this,aQ a];exact Lib.width_pos _ _
theorem BN (l:Bs):(dB l).1≤1114111:=by
 unfold dB Lib.decodeGoB;split
 ·decide
 ·exact Lib.rune_le _ _
theorem C1 (l:Bs) (b P G:Nat) (w:World) (M:l≠[]) (hT:Lib.Utf8Tabs 6 7 w) (hp:bJ w b P l) (hl:l.length≤100000000000000) (c1:l.length≤G) (c2:G≤9223372036854775807) :
  Calls prog 96 #[.slice (some ⟨b,P,none⟩) l.length G] w fun e w'=>e=.returned (.bool (cX l))∧Below w.heap.size w w':=by
 have b4:((l.length:Int)==0)=false:=by simpa using M
 have j:=Lh (NA l b P G w hT hp);have R:=Lh (show cX l=(if (dB l).1=65533∧(dB l).2=1 then false else if gY (dB l).1 then dV fR (l.length-1) (l.drop (dB l).2) else false) by
  have:l.length=(l.length-1)+1:=by
   have:l.length≠0:=by simpa using M
   omega
  unfold cX;rw [aQ M];conv=>lhs;rw [this]
  rw [dV,aQ M])
 have ⟨HT,HP⟩:=cB hT hp;have x:=BN l;have b6:=pS l M;have ⟨b1,c5⟩:=cB RG M9;have b2:=Lh (fun (S:Nat) (r:Nat) (w:World) (hr:r≤1114111) (B:Lib.RTabAt S 0 iO w)=>Tryz.unicode_Is_any S 0 iO r w (by omega) (by omega) B M8);have c4:=Lh (fun (S:Nat) (r:Nat) (w:World) (hr:r≤1114111) (B:Lib.RTabAt S 0 iY w)=>Tryz.unicode_Is_any S 0 iY r w (by omega) (by omega) B J1);obtain ⟨r,hr⟩:=cK ((dB l).1);obtain ⟨n,hn⟩:=cK ((dB l).2);rw [←hr] at j R x;rw [←hn] at j R b6;have b9:=Lh x;clear hr hn hT hp x;have I:(((r:Int)==65533)=false)∨(((r:Int)==65533)=true∧((n:Int)==1)=false)∨(((r:Int)==65533)=true∧((n:Int)==1)=true):=by
  cases ((r:Int)==65533)<;>cases ((n:Int)==1)<;>simp
 rcases I with T|⟨T,A⟩|⟨T,A⟩;case inr.inr=>
  go_enter func96,ntmps96
  go_wp2_with fail;refine j.o.mono ?_;rintro e1 w1 ⟨rfl,i⟩;have t:=Lh i;clear i;go_wp2;go_ret
  refine ⟨?_,t.o⟩;rw [R.o,aY ⟨(by have:(r:Int)=65533:=(by simpa using T);omega),(by have:(n:Int)=1:=(by simpa using A);omega)⟩];rfl
 all_goals
  have X:Hx (cX l=(if gY r then dV fR (l.length-1) (l.drop n) else false)):=by
   have:=R.o;rw [aQ (by intro h;simp_all)] at this;exact this
  go_enter func96,ntmps96
  go_wp2_with fail;refine j.o.mono ?_;rintro e1 w1 ⟨rfl,i⟩;have t:=Lh i;clear i;go_wp2_with fail;refine (b1.o _).mono ?_;rintro e2 w2 ⟨S,rfl,B,u⟩;have c:=Lh (b2.o S r w2 b9.o B);have C:=Lh (t.o.trans (u.mono t.o.size));clear B u;go_wp2_with fail;refine c.o.mono ?_;rintro e3 w3 ⟨rfl,H⟩;have z:=Lh (C.o.trans (H.mono C.o.size));clear H c;have g:Lib.isGo iO (r:Int)=false∨Lib.isGo iO (r:Int)=true:=by cases Lib.isGo iO (r:Int)<;>simp
  rcases g with g|g
  ·go_wp2;go_ret
   refine ⟨?_,z.o⟩;rw [X.o,aQ (by unfold gY;rw [g];simp)];rfl
  ·have a7:Hx (cX l=dV fR (l.length-1) (l.drop n)):=by
    have:=X.o;rw [aY (by unfold gY;exact g)] at this;exact this
   go_wp2;clear g T b4 j;go_loopg [0,3,4] l.length (fun k s _ nv wr=>∃ (d:Bs) (o Q a:Nat),s=.slice (some ⟨b,o,none⟩) d.length Q∧nv=.int .i64 a∧d.length=k∧d.length≤100000000000000∧1≤a∧d.length≤Q∧Q≤9223372036854775807∧(∃ m,d=l.drop m∧o=P+m)∧(∃ f,d.length≤f+1∧cX l=dV fR f (d.drop a))∧Below w.heap.size w wr)
   case atStart=>exact ⟨l,P,G,n,rfl,rfl,rfl,hl,b6,c1,c2,⟨0,rfl,rfl⟩,⟨l.length-1,by omega,a7.o⟩,z.o⟩
   case round=>
    obtain ⟨d,o,Q,a,rfl,rfl,hk,b3,b5,aA,aC,⟨m,U,V⟩,⟨f,hf,O⟩,J⟩:=hrel;have ⟨a8,a9⟩:=cB U V;have a3:bJ wr b o d:=by rw [U,V];exact (HP.o.below J).drop m
    have ⟨HK,HF,c6,D⟩:=kS hk hf O J;have a2:((a:Int)<(d.length:Int))∨¬ ((a:Int)<(d.length:Int)):=by omega
    rcases a2 with a2|a2
    ·have L:=a3.drop a;have j:=NA (d.drop a) b (o+a) (Q-a) wr (Utf8Tabs_below HT.o J) L;rw [eC] at j;have N:d.drop a≠[]:=by
      intro h;have:=congrArg List.length h;simp at this;omega
     have c3:∃ Y,f=Y+1:=⟨f-1,by omega⟩;obtain ⟨Y,rfl⟩:=c3;have q:Hx (cX l=(if (dB (d.drop a)).1=65533∧(dB (d.drop a)).2=1 then false else if fR (dB (d.drop a)).1 then dV fR Y ((d.drop a).drop (dB (d.drop a)).2) else false)):=by
      have:=O;rw [dV,aQ N] at this;exact this
     have x:=BN (d.drop a);have a1:=pS (d.drop a) N;obtain ⟨y,b7⟩:∃ r,r=(dB (d.drop a)).1:=⟨_,rfl⟩;obtain ⟨W,a0⟩:∃ n,n=(dB (d.drop a)).2:=⟨_,rfl⟩;rw [←b7] at j q x;rw [←a0] at j q a1;have ⟨a6,bC,bA⟩:=kV j x a1;have c7:¬ Q=a:=by omega
     have q1:(0:Int)≤(a:Int):=by omega
     have q2:(d.length:Int)≤(Q:Int):=by omega
     have q3:(a:Int)≤(d.length:Int):=by omega
     have q4:(a:Int)≤(Q:Int):=by omega
     have q5:(d.length:Int)≤100000000000000:=by omega
     have p:=Lh (And.intro b5 (And.intro b3 (And.intro aA aC)));clear U V hk hf O J a3 L N j x a1 b7 a0 b3 b5 aA aC;have I:(((y:Int)==65533)=false)∨(((y:Int)==65533)=true∧((W:Int)==1)=false)∨(((y:Int)==65533)=true∧((W:Int)==1)=true):=by
      cases ((y:Int)==65533)<;>cases ((W:Int)==1)<;>simp
     rcases I with T|⟨T,A⟩|⟨T,A⟩;case inr.inr=>
      go_wp2_with fail;refine a6.o.mono ?_;rintro e1 w1 ⟨rfl,i⟩;have t:=Lh i;clear i;go_wp2;(try simp only [Exit.inBlock,Exit.then])
      go_ret
      refine ⟨?_,D.o.trans (t.o.mono D.o.size)⟩;rw [q.o,aY ⟨(by have:(y:Int)=65533:=(by simpa using T);omega),(by have:(W:Int)=1:=(by simpa using A);omega)⟩];rfl
     all_goals
      have E:Hx (cX l=(if fR y then dV fR Y ((d.drop a).drop W) else false)):=by
       have:=q.o;rw [aQ (by
        rintro ⟨h1,h2⟩;rw [h1] at T;try rw [h2] at A
        simp_all)] at this
       exact this
      go_wp2_with fail;refine a6.o.mono ?_;rintro e1 w1 ⟨rfl,i⟩;have t:=Lh (D.o.trans (i.mono D.o.size));clear i;go_wp2_with fail;refine (b1.o _).mono ?_;rintro e2 w2 ⟨S,rfl,B,u⟩;have c:=Lh (b2.o S y w2 bC.o B);have C:=Lh (t.o.trans (u.mono t.o.size));clear B u;go_wp2_with fail;refine c.o.mono ?_;rintro e3 w3 ⟨rfl,H⟩;have z:=Lh (C.o.trans (H.mono C.o.size));clear H c;have g:Lib.isGo iO (y:Int)=false∨Lib.isGo iO (y:Int)=true:=by cases Lib.isGo iO (y:Int)<;>simp
      rcases g with g|g
      ·go_wp2_with fail;refine (c5.o _).mono ?_;rintro e4 w4 ⟨cT,rfl,B,Z⟩;have c:=Lh (c4.o cT y w4 bC.o B);have a4:=Lh (z.o.trans (Z.mono z.o.size));clear B Z;go_wp2_with fail;refine c.o.mono ?_;rintro e5 w5 ⟨rfl,b0⟩;have a5:=Lh (a4.o.trans (b0.mono a4.o.size));clear b0 c;have v:Lib.isGo iY (y:Int)=false∨Lib.isGo iY (y:Int)=true:=by cases Lib.isGo iY (y:Int)<;>simp
       rcases v with v|v
       ·go_wp2;(try simp only [Exit.inBlock,Exit.then])
        go_ret
        refine ⟨?_,a5.o⟩;rw [E.o,aQ (by unfold fR;rw [g,v];simp)];rfl
       ·have F:=Lh (show cX l=dV fR Y ((d.drop a).drop W) by rw [E.o,aY (by unfold fR;rw [v];simp)]);go_wp2;go_roundg (d.length-a)
        case measure=>have:=HK.o;have:=p.o;omega
        case rel=>exact ⟨d.drop a,o+a,Q-a,W,by rw [eC],rfl,by rw [eC],by rw [eC];have:=p.o;omega,bA.o,by rw [eC];have:=p.o;omega,by have:=p.o;omega,⟨m+a,by rw [a8.o,List.drop_drop],by rw [a9.o];omega⟩,⟨Y,by rw [eC];have:=HF.o;have:=p.o;omega,F.o⟩,a5.o⟩
      ·have F:=Lh (show cX l=dV fR Y ((d.drop a).drop W) by rw [E.o,aY (by unfold fR;rw [g];simp)]);go_wp2;go_roundg (d.length-a)
       case measure=>have:=HK.o;have:=p.o;omega
       case rel=>exact ⟨d.drop a,o+a,Q-a,W,by rw [eC],rfl,by rw [eC],by rw [eC];have:=p.o;omega,bA.o,by rw [eC];have:=p.o;omega,by have:=p.o;omega,⟨m+a,by rw [a8.o,List.drop_drop],by rw [a9.o];omega⟩,⟨Y,by rw [eC];have:=HF.o;have:=p.o;omega,F.o⟩,z.o⟩
    ·have q:=Lh (show cX l=true by
      rw [O,show d.drop a=[] by apply tW;omega];cases f<;>simp [dV])
     clear U V hk hf O J a3;go_wp2;(try simp only [Exit.inBlock,Exit.then])
     go_ret
     exact ⟨by rw [q.o];rfl,D.o⟩
structure Cx.Fit (x:Cx):Prop extends Cx.Ok x where
 u8:Lib.Utf8Tabs 6 7 x.W0
theorem Cx.Fit.tabs {x:Cx} (a:x.Fit) {w:World} (h:Below x.B x.W0 w):Lib.Utf8Tabs 6 7 w:=Utf8Tabs_below a.u8 h
abbrev aB (s:Bs):Value:=.string ⟨s.toArray⟩
theorem cN.ofS0 {x:Cx} {w w':World} {v v':DV} (c:aJ x.S0 w w') (a:∀ k,dU v'.bufv k↔dU v.bufv k):cN x w v w' v':=
 ⟨c.mono (fun _ _ h=>aG h),fun k b=>aG ((a k).1 b)⟩
theorem lY.bytes {x:Cx} {w:World} {v:Value} {a:Bs} (h:lY x w v a) (e:a≠[]):∃ g b,v=.slice (some ⟨g,0,none⟩) a.length b∧bJ w g 0 a∧a.length≤b∧b≤9223372036854775807∧x.B≤g∧¬ x.S0 g∧g<w.heap.size:=by
 rcases h with ⟨_,l⟩|⟨g,b,arr,p,f,o,n,c,i,k,d⟩
 ·exact absurd l e
 ·exact ⟨g,b,p,fun j m=>by rw [Nat.zero_add,f.cell];exact d j m,n,c,i,k,f.lt⟩
theorem bJ.toBytes {w:World} {b c:Nat} {l:Bs} (h:bJ w b c l):Lib.Bytes w b c ⟨l.toArray⟩:=by
 intro i d;have a:i<l.length:=d;rw [h i a];simp [rF,a];rfl
theorem mP (l:Bs) (w:World) (b a c:Nat) (h:bJ w b a l):(convert 81 9 (.slice (some ⟨b,a,none⟩) l.length c)).run prog w=.ok (aB l) w:=
 Lib.run_convert_whole (P:=prog) w 81 5 9 underlying81 underlying5 underlying9 b a ⟨l.toArray⟩ h.toBytes c
theorem kB (l:Bs):(aD l).1.length+(aD l).2.length=l.length:=by
 induction l with
 | nil=>rfl
 | cons b r ih=>unfold aD;split<;>simp<;>omega
def NB (x:Cx) (c:DC) (w:World) (v:DV) (k:EK):Prop:=iQ x c w v k∨(k=.syn∧∃ r b,cA x c w v r none b)
def NC (x:Cx) (c:DC) (w':World) (v':DV) (a:Ending):Except EK (Bs×Bs)→Prop
 | .error k=>a=.returned (.tuple #[.string ⟨#[]⟩,.bool false])∧NB x c w' v' k
 | .ok (s,r)=>a=.returned (.tuple #[aB s,.bool true])∧cA x c w' v' r none s
theorem aH {w w':World} (a:Below w.heap.size w w') (S:Nat→Prop):aJ S w w':=⟨a.os,a.tape,a.output,a.size,fun i b _=>a.block i b⟩
theorem cA.syn {x:Cx} {c:DC} {w w':World} {v:DV} {rest:Bs} {e:Option EK} {b:Bs} (h:cA x c w v rest e b) (f:x.Ok) (d:Below w.heap.size w w') (a:Addr) :
  iQ x c (w'.setCell ⟨x.d,20,none⟩ (.iface 113 (.pointer (some a)))) { v with err:=.iface 113 (.pointer (some a)) } .syn:=
 ⟨(aJ.below h.base h.base.size (aH d (fun _=>False)) (fun _ h=>h.elim)).setCell f.d _,(show aL _ x.d _ _ from aL.mod (S:=fun _=>False) h.dec (aH d _) id).set 20 _,⟨a,rfl⟩⟩
theorem cN.syn {x:Cx} {w0 w w':World} {v0 v:DV} (h:cN x w0 v0 w v) (a:Below w.heap.size w w') (u:Value):cN x w0 v0 (w'.setCell ⟨x.d,20,none⟩ u) { v with err:=u }:=
 h.s0 ((aH a x.S0).setCell (p:=⟨x.d,20,none⟩) (aG (aG rfl)) u) rfl
theorem cA.below {x:Cx} {c:DC} {w w':World} {v:DV} {rest:Bs} {e:Option EK} {a:Bs} (h:cA x c w v rest e a) (g:x.Ok) (b:Below w.heap.size w w'):cA x c w' v rest e a:=by
 obtain ⟨i,d,f⟩:=h.inp;exact h.step g (aL.mod (S:=fun _=>False) h.dec (aH b _) id) (aH b _) ⟨i,d.mod (aH b (fun _=>False)) id id id,f⟩ h.pos h.err h.fin rfl
theorem J2 {f:Bool} {rest:Bs} (h:(aD rest).2=[]):eT f rest=.error (bY f):=by unfold eT;rw [aY h]
theorem FU {f:Bool} {rest:Bs} (h:(aD rest).2≠[]) (a:(aD rest).1=[]):eT f rest=.error .syn:=by unfold eT;rw [aQ h,aY a]
theorem FV {f:Bool} {rest:Bs} (h:(aD rest).2≠[]) (a:(aD rest).1≠[]):eT f rest=if cX (aD rest).1 then .ok (aD rest) else .error .syn:=by unfold eT;rw [aQ h,aQ a]
theorem ND (x:Cx) (P:x.Fit) (c:DC) (E:hY x c) (w:World) (v:DV) (rest:Bs) (e:Option EK) (B:Bs) (h:cA x c w v rest e B) :
  Calls prog 68 #[.pointer (some ⟨x.d,0,none⟩)] w fun en w'=>∃ v',cN x w v w' v' ∧
   NC x c w' v' en (eT x.o.fails rest):=by
 have ⟨N,HD⟩:=cB P E;have T:=Lh (show rest.length≤1000000000 from fQ (h.suf.length_le) P.len);have I:=Lh (oU x P.toOk c w v rest e B h);clear h P E;go_enter func68,ntmps68
 go_wp2_with fail;refine I.o.mono ?_;rintro e1 w1 ⟨rfl,v1,h1,a0,D,G,a2⟩;have H:=Lh (xD x N.o.toOk c HD.o w1 v1 rest e [] h1 (by simp));have m:=Lh (cN.ofS0 G D);clear h1 a0 D G a2 I;go_wp2_with fail;refine H.o.mono ?_;rintro e2 Q ⟨t,J,hq⟩;have n:=Lh (m.o.trans J);clear J H;rcases hq with ⟨b,rfl,he⟩|⟨b,d,rfl,j⟩|⟨b,d,rfl,j⟩
 ·have HE:=Lh he;have o:=Lh b;clear he b;go_wp2;go_ret2
  refine ⟨t,n.o,?_⟩;rw [J2 o.o];exact ⟨rfl,aG HE.o⟩
 ·have V:=Lh j;have ⟨o,m⟩:=cB b d;clear j b d;go_wp2;go_ret2
  refine ⟨t,n.o,?_⟩;rw [FU o.o m.o];exact ⟨rfl,aU ⟨rfl,_,_,V.o⟩⟩
 ·rw [List.nil_append] at j;obtain ⟨l,O⟩:=cK ((aD rest).1);have a6:l.length≤1000000000:=by have:=kB rest;have:=T.o;rw [O];omega
  have z:=Lh (show eT x.o.fails rest=if cX l then .ok (l,(aD rest).2) else .error .syn by
   rw [FV b d,O])
  rw [←O] at j d;obtain ⟨g,C,hv,a,aC,Z,W,X,a3⟩:=j.bf.bytes d;have q:=Lh (l8 x c Q t _ none l j);have F:=Lh (fun k=>C1 l g 0 C (Q.drewN k) d (N.o.tabs (bM j.base k)) a (by omega) aC Z);have ⟨V,R⟩:=cB j a;clear j a b O W X;rw [hv] at q;go_wp2_with fail;refine q.o.mono ?_;rintro e3 w3 ⟨rfl,k,rfl⟩;go_wp2_with fail;refine (F.o k).mono ?_;rintro e4 u ⟨rfl,i⟩;have f:Below Q.heap.size Q u:=⟨i.os,i.tape,i.output,i.size,i.block⟩;have h4:=V.o.below N.o.toOk f;have A:=Lh (n.o.s0 (aH f _) rfl);have aA:=mP l u g 0 C (R.o.below f);have M:=Lh h4;clear i f F q h4;have r:cX l=true∨cX l=false:=by cases cX l<;>simp
  rcases r with Y|Y
  ·have U:=Lh (show eT x.o.fails rest=.ok (l,(aD rest).2) by rw [z.o,aY Y]);go_wp2;go_ret2
   refine ⟨t,A.o,?_⟩;rw [U.o];exact ⟨rfl,M.o⟩
  ·have U:=Lh (show eT x.o.fails rest=.error .syn by rw [z.o,Y];rfl);have a1:=Lh (BI x.d c t u M.o.dec);go_wp2_with fail;refine (a1.o _).mono ?_;rintro e5 w5 ⟨rfl,L⟩;have p:Below u.heap.size u w5:=by rw [L];exact (Below.refl _ u).alloc (dF _) _
   have s:bR w5 x.d c t:=aL.mod (S:=fun _=>False) M.o.dec (aH p _) id;have a4:=s.cell;have a5:=s.frozen;have y:=Lh p;clear L s p;go_wp2;go_ret2
   refine ⟨{ t with err:=.iface 113 (.pointer (some ⟨u.heap.size,0,none⟩)) },A.o.syn y.o _,?_⟩;rw [U.o];exact ⟨rfl,aG (M.o.syn N.o.toOk y.o _)⟩
def kT (p:Bs):Bs→Option Nat
 | []=>if p=[] then some 0 else none
 | b::r=>if p.isPrefixOf (b::r) then some 0 else (kT p r).map (·+1)
def uA (p l:Bs):Int:=match kT p l with|none=>-1|some k=>k
theorem xF (p:Bs):∀ l:Bs,l.length<p.length→kT p l=none
 | [],h=>by unfold kT;rw [aQ (by intro e;subst e;simp at h)]
 | b::r,h=>by
  unfold kT;rw [aQ (by
   intro a;have:=(List.isPrefixOf_iff_prefix.1 a).length_le;omega),xF p r (by simp at h;omega)]
  rfl
theorem NE (p l:Bs) (h:p.isPrefixOf l=true):kT p l=some 0:=by
 cases l with
 | nil=>unfold kT;rw [aY (by simpa using h)]
 | cons b r=>unfold kT;rw [aY h]
theorem J4 (p l:Bs) (h:p.isPrefixOf l=false) (a:p.length≤l.length):kT p l=(kT p (l.drop 1)).map (·+1):=by
 cases l with
 | nil=>
  have:p=[]:=by simpa using a
  subst this;simp at h
 | cons b r=>
  conv=>lhs;unfold kT
  rw [aQ (by rw [h];simp)];rfl
theorem l9 (l p:Bs) (i:Nat):((⟨l.toArray⟩:ByteArray).extract i (i+p.length)=⟨p.toArray⟩)↔p.isPrefixOf (l.drop i)=true:=by
 rw [List.isPrefixOf_iff_prefix,List.prefix_iff_eq_take];have e:((⟨l.toArray⟩:ByteArray).extract i (i+p.length)).data.toList=(l.drop i).take p.length:=by
  rw [Lib.extract_data];simp
 constructor
 ·intro a;rw [a] at e;simpa using e
 ·intro a;apply ByteArray.ext
  apply Array.toList_inj.1
  rw [e,←a]
theorem zZ (l p:Bs) (w:World) (v:l.length≤1000000000000) (x:p.length≤1000000000000) (s:1≤p.length) :
  Calls prog 105 #[aB l,aB p] w fun o w'=>o=.returned (.int .i64 (uA p l))∧w'=w:=by
 have q:(l.length:Int)≤1000000000000:=by omega
 have r:(p.length:Int)≤1000000000000:=by omega
 go_enter func105,ntmps105
 go_wp2;go_loopg [5] (l.length+1) (fun k u wr=>∃ i:Nat,u=.int .i64 i∧i+k=l.length+1∧kT p l=(kT p (l.drop i)).map (·+i)∧wr=w)
 case atStart=>exact ⟨0,rfl,by omega,by simp,rfl⟩
 case round=>
  obtain ⟨i,rfl,j,c,rfl⟩:=hrel;have ⟨a,g⟩:=cB c j;have y:(0:Int)≤(i:Int):=by omega
  have z:(i:Int)≤1000000000001:=by omega
  clear c j;have f:((i:Int)+(p.length:Int)≤(l.length:Int))∨¬ ((i:Int)+(p.length:Int)≤(l.length:Int)):=by omega
  rcases f with f|f
  ·have b:((⟨l.toArray⟩:ByteArray).extract i (i+p.length)=⟨p.toArray⟩)∨¬ ((⟨l.toArray⟩:ByteArray).extract i (i+p.length)=⟨p.toArray⟩):=Classical.em _;rcases b with b|b
   ·have d:=(l9 l p i).1 b;have e:=Lh (show uA p l=i by unfold uA;rw [a.o,NE _ _ d];simp);go_wp2;go_ret
    exact ⟨by rw [e.o];rfl,rfl⟩
   ·have d:p.isPrefixOf (l.drop i)=false:=by
     rw [←Bool.not_eq_true];exact fun h=>b ((l9 l p i).2 h)
    have m:=Lh (show kT p l=(kT p (l.drop (i+1))).map (·+(i+1)) by
     rw [a.o,J4 _ _ d (by rw [eC];omega),Option.map_map,List.drop_drop]
     congr 1
     funext n
     simp;omega)
    have t:(((⟨l.toArray⟩:ByteArray).extract i (i+p.length)).toList==p)=false:=by
     rw [lQ];intro h;apply b
     apply ByteArray.ext
     apply Array.toList_inj.1
     rw [ByteArray.toList_eq] at h;exact h.trans (by simp)
    clear d b;go_wp2;go_roundg (gk-1)
    case measure=>have:=g.o;omega
    case rel=>exact ⟨i+1,by simp,by have:=g.o;omega,m.o,rfl⟩
  ·have e:=Lh (show uA p l=-1 by
    unfold uA;rw [a.o,xF _ _ (by rw [eC];omega)];rfl)
   go_wp2;go_ret
   exact ⟨by rw [e.o];rfl,rfl⟩
theorem NF (l:Bs) (k:Nat):(⟨l.toArray⟩:ByteArray).extract 0 k=⟨(l.take k).toArray⟩:=by
 apply ByteArray.ext
 apply Array.toList_inj.1
 rw [Lib.extract_data];simp
theorem pT (l:Bs) (k:Nat):(⟨l.toArray⟩:ByteArray).extract k l.length=⟨(l.drop k).toArray⟩:=by
 apply ByteArray.ext
 apply Array.toList_inj.1
 rw [Lib.extract_data];simp [List.take_of_length_le]
theorem BO (p:Bs):∀ (l:Bs) (k:Nat),kT p l=some k→k+p.length≤l.length
 | [],k,h=>by
  unfold kT at h;split at h
  ·rename_i a;subst a;simp only [jW] at h;subst h;simp
  ·cases h
 | b::r,k,h=>by
  unfold kT at h;split at h
  ·rename_i a;simp only [jW] at h;subst h;have:=(List.isPrefixOf_iff_prefix.1 a).length_le;omega
  ·rw [Option.map_eq_some_iff] at h;obtain ⟨j,c,rfl⟩:=h;have:=BO p r j c;simp;omega
theorem RH (l p:Bs) (w:World) (i:l.length≤1000000000000) (j:p.length≤1000000000000) (e:1≤p.length) :
  Calls prog 102 #[aB l,aB p] w fun f w'=>∃ n,w'=w.drewN n ∧
   ((∃ k,kT p l=some k∧f=.returned (.tuple #[aB (l.take k),aB (l.drop (k+p.length)),.bool true]))∨(kT p l=none∧f=.returned (.tuple #[aB l,aB [],.bool false]))):=by
 have c:=Lh (zZ l p w i j e);cases a:kT p l with
 | none=>
  have b:uA p l=-1:=by unfold uA;rw [a]
  rw [b] at c;have d:=Lh a;clear a b;go_enter func102,ntmps102
  go_wp2_with fail;refine c.o.mono ?_;rintro g w1 ⟨rfl,rfl⟩;go_wp2;go_ret3
  exact ⟨0,rfl,aU ⟨trivial,rfl⟩⟩
 | some k=>
  have b:uA p l=k:=by unfold uA;rw [a]
  rw [b] at c;have h:=BO p l k a;have m:(0:Int)≤(k:Int):=by omega
  have o:(k:Int)+(p.length:Int)≤(l.length:Int):=by omega
  have q:(l.length:Int)≤1000000000000:=by omega
  have r:(k:Int)≤(l.length:Int):=by omega
  have d:=Lh a;clear a b;go_enter func102,ntmps102
  go_wp2_with fail;refine c.o.mono ?_;rintro g w1 ⟨rfl,rfl⟩;go_wp2;go_quiet (fail);go_wp2;go_ret3
  refine ⟨nq,rfl,aG ⟨k,rfl,?_⟩⟩;simp only [aB];rw [←NF,←pT];rfl
theorem NG (l:Bs) (i:Nat) (b:i<l.length):dW (l.drop i)=(if [(58:UInt8)].isPrefixOf (l.drop i) then 1 else 0)+dW (l.drop (i+1)):=by
 rw [CN b];unfold dW;simp only [List.filter_cons,List.isPrefixOf,Bool.and_true];by_cases h:l[i]=58
 ·simp [h];omega
 ·have a:¬ (58:UInt8)=l[i]:=fun e=>h e.symm;simp [h,a]
theorem RI (l:Bs) (i:Nat) (a:l.length≤i):dW (l.drop i)=0:=by
 rw [tW a];rfl
theorem VD (l:Bs):dW l≤l.length:=List.length_filter_le _ _
theorem J6 (l:Bs) (w:World) (x:l.length≤1000000000000) :
  Calls prog 101 #[aB l,aB [58]] w fun q w'=>q=.returned (.int .i64 (dW l))∧w'=w:=by
 have s:(l.length:Int)≤1000000000000:=by omega
 go_enter func101,ntmps101
 go_wp2;go_loopg [5,6] (l.length+1) (fun k v u wr=>∃ n i:Nat,v=.int .i64 n∧u=.int .i64 i∧i+k=l.length+1∧n+dW (l.drop i)=dW l∧wr=w)
 case atStart=>exact ⟨0,0,rfl,rfl,by omega,by simp,rfl⟩
 case round=>
  obtain ⟨n,i,rfl,rfl,o,d,rfl⟩:=hrel;have ⟨a,e⟩:=cB d o;have y:(0:Int)≤(i:Int):=by omega
  have z:(i:Int)≤1000000000001:=by omega
  have A:(n:Int)≤1000000000000:=by have:=VD l;omega
  have B:(0:Int)≤(n:Int):=by omega
  clear d o;have j:((i:Int)+1≤(l.length:Int))∨¬ ((i:Int)+1≤(l.length:Int)):=by omega
  rcases j with j|j
  ·have m:=Lh (NG l i (by omega));have b:((⟨l.toArray⟩:ByteArray).extract i (i+1)=⟨[(58:UInt8)].toArray⟩)∨¬ ((⟨l.toArray⟩:ByteArray).extract i (i+1)=⟨[(58:UInt8)].toArray⟩):=Classical.em _;rcases b with b|b
   ·have c:=(l9 l [58] i).1 b;have f:=Lh (show n+1+dW (l.drop (i+1))=dW l by
     have r:=a.o;have g:=m.o;rw [aY c] at g;omega)
    clear c;go_wp2;go_roundg (gk-1)
    case measure=>have:=e.o;omega
    case rel=>exact ⟨n+1,i+1,by simp,by simp,by have:=e.o;omega,f.o,rfl⟩
   ·have c:[(58:UInt8)].isPrefixOf (l.drop i)=false:=by
     rw [←Bool.not_eq_true];exact fun h=>b ((l9 l [58] i).2 h)
    have f:=Lh (show n+dW (l.drop (i+1))=dW l by
     have r:=a.o;have g:=m.o;rw [aQ (by rw [c];simp)] at g;omega)
    have t:(((⟨l.toArray⟩:ByteArray).extract i (i+1)).toList==[(58:UInt8)])=false:=by
     rw [lQ];intro h;apply b
     apply ByteArray.ext
     apply Array.toList_inj.1
     rw [ByteArray.toList_eq] at h;exact h.trans (by simp)
    clear c b;go_wp2;go_roundg (gk-1)
    case measure=>have:=e.o;omega
    case rel=>exact ⟨n,i+1,rfl,by simp,by have:=e.o;omega,f.o,rfl⟩
  ·have p:=Lh (show dW l=n by
    have:=a.o;rw [RI l i (by omega)] at this;omega)
   go_wp2;go_ret
   exact ⟨by rw [p.o];rfl,rfl⟩
abbrev u5 (n:Bs×Bs):Value:=.agg #[aB n.1,aB n.2]
def VE (x:Cx) (c:DC) (w':World) (v':DV) (a:Ending):Except EK ((Bs×Bs)×Bs)→Prop
 | .error k=>∃ nm,a=.returned (.tuple #[u5 nm,.bool false])∧NB x c w' v' k
 | .ok (nm,r)=>a=.returned (.tuple #[u5 nm,.bool true])∧∃ b,b≠[]∧cA x c w' v' r none b
theorem z7:∀ s:Bs,kT [58] s=(match s.dropWhile (· != 58) with|[]=>none|_::_=>some (s.takeWhile (· != 58)).length)
 | []=>by simp [kT]
 | b::r=>by
  unfold kT;by_cases h:b=58
  ·subst h;simp [List.isPrefixOf]
  ·have a:¬ (58:UInt8)=b:=fun e=>h e.symm;rw [aQ (by simp [List.isPrefixOf,a]),z7 r];simp only [List.dropWhile_cons,List.takeWhile_cons,bne_iff_ne,ne_eq,h,not_false_eq_true,if_true];cases r.dropWhile (· != 58)<;>simp
theorem cA.s1lt {x:Cx} {c:DC} {w:World} {v:DV} {rest:Bs} {e:Option EK} {b:Bs} (h:cA x c w v rest e b) (k:Nat) (a:x.S1 v k):k<w.heap.size:=by
 rcases a with a|a
 ·exact h.s0lt k a
 ·rcases h.bf with ⟨d,_⟩|⟨g,cap,arr,d,f,_⟩
  ·rw [d] at a;exact a.elim
  ·rw [d] at a;have:k=g:=a;subst this;exact f.lt
theorem cA.mod {x:Cx} {c:DC} {w w':World} {v:DV} {rest:Bs} {e:Option EK} {a:Bs} {S:Nat→Prop} (h:cA x c w v rest e a) (d:aJ S w w') (b:∀ k,x.S1 v k→¬ S k) (g:∀ k,S k→x.B≤k):cA x c w' v rest e a:=by
 obtain ⟨l,f,j⟩:=h.inp;exact ⟨aJ.below h.base h.base.size d g,aL.mod h.dec d (b _ (aG (aG rfl))),⟨l,f.mod d (b _ (aG (aU (aG rfl)))) (b _ (aG (aU (aU (aG rfl))))) (b _ (aG (aU (aU (aU rfl))))),j⟩,h.pos,h.err,h.fin,h.bf.mod d (fun k i=>b _ (aU i))⟩
theorem cN.new {x:Cx} {w w1 b:World} {v a:DV} {q:Nat} (h:cN x w v w1 a) (e:w.heap.size≤q) (c:aJ (fun k=>k=q) w1 b):cN x w v b a:=
 ⟨h.mod.trans c (fun i d f=>by omega),h.buf⟩
theorem z8 {f:Bool} {rest s r:Bs} (h:eT f rest=.ok (s,r)):s.length≤rest.length:=by
 unfold eT at h;have:=kB rest;split at h
 ·cases h
 ·split at h
  ·cases h
  ·split at h
   ·simp only [cD] at h;rw [h] at this;simp only at this;omega
   ·cases h
theorem NH {f:Bool} {l n r:Bs} (h:eT f l=.ok (n,r)):n≠[]:=by
 unfold eT at h;split at h
 ·cases h
 ·split at h
  ·cases h
  ·rename_i a;split at h
   ·simp only [cD] at h;rw [h] at a;exact a
   ·cases h
theorem xG (x:Cx) (T:x.Fit) (c:DC) (P:hY x c) (w:World) (v:DV) (rest:Bs) (e:Option EK) (M:Bs) (h:cA x c w v rest e M) :
  Calls prog 66 #[.pointer (some ⟨x.d,0,none⟩)] w fun en w'=>∃ v',cN x w v w' v'∧VE x c w' v' en (cL x.o.fails rest):=by
 have HX:=Lh T;have W:=Lh (show rest.length≤1000000000 from fQ (h.suf.length_le) T.len);have A:Below w.heap.size w (w.alloc (.cells #[.string ⟨#[]⟩,.string ⟨#[]⟩] 89)):=(Below.refl _ w).alloc (dF _) _;have z:=h.below T.toOk A;have R:=Lh (ND x T c P _ v rest e M z);have V:=aL.new w #[.string ⟨#[]⟩,.string ⟨#[]⟩] 89;have HQ:=Lh (fun (u:World) (i:DV) (S:cN x (w.alloc (.cells #[.string ⟨#[]⟩,.string ⟨#[]⟩] 89)) v u i)=>V.mod S.mod (fun b=>Nat.lt_irrefl _ (h.s1lt _ b)));have a4:=Lh A;have I:=Lh (fun (u:World) (i:DV) (S:cN x (w.alloc (.cells #[.string ⟨#[]⟩,.string ⟨#[]⟩] 89)) v u i)=>(show cN x w v u i from (cN.refl x w v).s0 (aH A _) rfl |>.trans S));have o:=Lh (fun (i:DV) {u:World} (S:cN x (w.alloc (.cells #[.string ⟨#[]⟩,.string ⟨#[]⟩] 89)) v u i) (k:Nat) (b:x.S1 i k)=>(show ¬ k=w.heap.size from fun e=>by
  subst e;rcases b with b|b
  ·exact Nat.lt_irrefl _ (h.s0lt _ b)
  ·rcases S.buf _ b with b|b
   ·exact Nat.lt_irrefl _ (h.s1lt _ (aU b))
   ·simp at b;omega))
 have H:=Lh h;have aA:=V.cell;have a0:=V.frozen;clear h z V A T P;go_enter func66,ntmps66
 go_wp2_with fail;refine R.o.mono ?_;rintro e2 u ⟨i,F,g⟩;have B:=HQ.o u i F;have d:=Lh F;have aA:=B.cell;have a0:=B.frozen;have X:=Lh B;clear F B R;cases D:eT x.o.fails rest with
 | error k=>
  rw [D] at g;obtain ⟨rfl,g⟩:=g;have HP:=Lh g;have U:=Lh (show cL x.o.fails rest=.error k by unfold cL;rw [D]);clear g D;go_wp2;refine bodyPost_ret (v:=.tuple #[u5 ([],[]),.bool false]) (by rw [results_cell_tmp rfl];go_simp) rfl ?_;refine ⟨i,I.o _ _ d.o,?_⟩;rw [U.o];exact ⟨([],[]),rfl,HP.o⟩
 | ok sr=>
  obtain ⟨s,r⟩:=sr;rw [D] at g;obtain ⟨rfl,hr⟩:=g;have Q:s.length≤1000000000000:=by
   have z:=W.o;have N:=kB rest;have h3:=z8 D;omega
  have L:=Lh hr;have y:=Lh (NH D);have C:=Lh (J6 s u Q);have hcut:=Lh (RH s [58] u Q (by simp) (by simp));have U:=Lh (show cL x.o.fails rest=if 1<dW s then .error .syn else .ok (dX s,r) by unfold cL;rw [D]);clear hr D;have Z:((1:Int)<(dW s:Int))∨¬ ((1:Int)<(dW s:Int)):=by omega
  rcases Z with Z|Z
  ·have l:=Lh (show cL x.o.fails rest=.error .syn by rw [U.o,aY (by omega)]);go_wp2_with fail;refine C.o.mono ?_;rintro Y G ⟨rfl,rfl⟩;go_wp2;refine bodyPost_ret (v:=.tuple #[u5 ([],[]),.bool false]) (by rw [results_cell_tmp rfl];go_simp) rfl ?_;have j:=((aJ.refl (fun k=>k=w.heap.size) G).setCell (p:=⟨w.heap.size,0,none⟩) (aG rfl) (.string ⟨#[]⟩)).setCell (p:=⟨w.heap.size,1,none⟩) (aG rfl) (.string ⟨#[]⟩);refine ⟨i,(I.o _ _ d.o).new (dF _) j,?_⟩;rw [l.o];exact ⟨([],[]),rfl,aU ⟨rfl,r,s,L.o.mod j (o.o _ d.o) (fun k b=>by rw [b];exact H.o.base.size)⟩⟩
  ·have l:=Lh (show cL x.o.fails rest=.ok (dX s,r) by rw [U.o,aQ (by omega)]);have J:=Lh (z7 s);go_wp2_with fail;refine C.o.mono ?_;rintro Y G ⟨rfl,rfl⟩;go_wp2_with fail;refine hcut.o.mono ?_;rintro e4 w4 ⟨n,rfl,a1⟩;rcases a1 with ⟨k,b,rfl⟩|⟨b,rfl⟩
   ·have q:(s.take k=[]∨s.drop (k+1)=[]→dX s=([],s))∧(¬ (s.take k=[]∨s.drop (k+1)=[])→dX s=(s.take k,s.drop (k+1))):=by
     have:=J.o;rw [b] at this;unfold dX;cases O:s.dropWhile (· != 58) with
     | nil=>rw [O] at this;cases this
     | cons a t=>
      rw [O] at this;simp only [jW] at this;have e1:s=s.takeWhile (· != 58)++a::t:=by rw [←O];simp
      have e2:s.takeWhile (· != 58)=s.take k:=by
       conv=>rhs;rw [e1]
       rw [this];simp
      have Y:t=s.drop (k+1):=by
       conv=>rhs;rw [e1]
       rw [this];simp
      simp only;rw [e2,Y];constructor
      ·intro h;rw [aY h]
      ·intro h;rw [aQ h]
    have m:=Lh q;clear b q;have aC:((s.take k==[])=true)∨((s.take k==[])=false∧(s.drop (k+1)==[])=true)∨((s.take k==[])=false∧(s.drop (k+1)==[])=false):=by
     cases (s.take k==[])<;>cases (s.drop (k+1)==[])<;>simp
    rcases aC with z|⟨z,N⟩|⟨z,N⟩
    ·have f:=Lh (m.o.1 (aG (by simpa using z)));go_wp2;refine bodyPost_ret (v:=.tuple #[u5 ([],s),.bool true]) (by rw [results_cell_tmp rfl];go_simp) rfl ?_;have j:=((((aJ.refl (fun k=>k=w.heap.size) G).drewN n).setCell (p:=⟨w.heap.size,1,none⟩) (aG rfl) (aB s)).setCell (p:=⟨w.heap.size,0,none⟩) (aG rfl) (.string ⟨#[]⟩)).setCell (p:=⟨w.heap.size,1,none⟩) (aG rfl) (aB s);refine ⟨i,(I.o _ _ d.o).new (dF _) j,?_⟩;rw [l.o,f.o];exact ⟨rfl,s,y.o,L.o.mod j (o.o _ d.o) (fun k b=>by rw [b];exact H.o.base.size)⟩
    ·have f:=Lh (m.o.1 (aU (by simpa using N)));go_wp2;refine bodyPost_ret (v:=.tuple #[u5 ([],s),.bool true]) (by rw [results_cell_tmp rfl];go_simp) rfl ?_;have j:=((((aJ.refl (fun k=>k=w.heap.size) G).drewN n).setCell (p:=⟨w.heap.size,1,none⟩) (aG rfl) (aB s)).setCell (p:=⟨w.heap.size,0,none⟩) (aG rfl) (.string ⟨#[]⟩)).setCell (p:=⟨w.heap.size,1,none⟩) (aG rfl) (aB s);refine ⟨i,(I.o _ _ d.o).new (dF _) j,?_⟩;rw [l.o,f.o];exact ⟨rfl,s,y.o,L.o.mod j (o.o _ d.o) (fun k b=>by rw [b];exact H.o.base.size)⟩
    ·have f:=Lh (m.o.2 (by simp at z N ⊢;exact ⟨z,N⟩));go_wp2;have E:=(((((show aL (G.drewN n) w.heap.size _ _ from X.o).set 0 (aB (s.take k))).set 1 (aB (s.drop (k+1)))).set 0 (aB (s.take k))).set 1 (aB (s.drop (k+1)))).cell;have a2:=E 0;have a3:=E 1;clear E;refine bodyPost_ret (v:=.tuple #[u5 (s.take k,s.drop (k+1)),.bool true]) (by rw [results_cell_tmp rfl];go_simp) rfl ?_;have j:=(((((aJ.refl (fun k=>k=w.heap.size) G).drewN n).setCell (p:=⟨w.heap.size,0,none⟩) (aG rfl) (aB (s.take k))).setCell (p:=⟨w.heap.size,1,none⟩) (aG rfl) (aB (s.drop (k+1)))).setCell (p:=⟨w.heap.size,0,none⟩) (aG rfl) (aB (s.take k))).setCell (p:=⟨w.heap.size,1,none⟩) (aG rfl) (aB (s.drop (k+1)));refine ⟨i,(I.o _ _ d.o).new (dF _) j,?_⟩;rw [l.o,f.o];exact ⟨rfl,s,y.o,L.o.mod j (o.o _ d.o) (fun k b=>by rw [b];exact H.o.base.size)⟩
   ·have q:dX s=([],s):=by
     have:=J.o;rw [b] at this;unfold dX;cases O:s.dropWhile (· != 58) with
     | nil=>rfl
     | cons a t=>rw [O] at this;cases this
    have m:=Lh q;clear b q;go_wp2;refine bodyPost_ret (v:=.tuple #[u5 ([],s),.bool true]) (by rw [results_cell_tmp rfl];go_simp) rfl ?_;have j:=((((aJ.refl (fun k=>k=w.heap.size) G).drewN n).setCell (p:=⟨w.heap.size,1,none⟩) (aG rfl) (aB s)).setCell (p:=⟨w.heap.size,0,none⟩) (aG rfl) (.string ⟨#[]⟩)).setCell (p:=⟨w.heap.size,1,none⟩) (aG rfl) (aB s);refine ⟨i,(I.o _ _ d.o).new (dF _) j,?_⟩;rw [l.o,m.o];exact ⟨rfl,s,y.o,L.o.mod j (o.o _ d.o) (fun k b=>by rw [b];exact H.o.base.size)⟩
theorem u6 (r:Nat):bW r=true↔r=9∨r=10∨r=13∨(32≤r∧r≤55295)∨(57344≤r∧r≤65533)∨(65536≤r∧r≤1114111):=by
 simp only [bW,Bool.or_eq_true,FI,IC,beq_iff_eq];omega
theorem J7 (n:Nat) (w:World):Calls prog 100 #[.int .i32 n] w fun e w'=>e=.returned (.bool (bW n))∧w=w':=by
 have b:=Lh (u6 n);have a:n<9∨n=9∨n=10∨(11≤n∧n≤12)∨n=13∨(14≤n∧n≤31)∨(32≤n∧n≤55295)∨(55296≤n∧n≤57343)∨(57344≤n∧n≤65533)∨(65534≤n∧n≤65535)∨(65536≤n∧n≤1114111)∨1114112≤n:=by omega
 rcases a with h|h|h|h|h|h|h|h|h|h|h|h
 all_goals
  have c:=Lh h;first|have:(32:Int)≤(n:Int):=by omega|have:¬ ((32:Int)≤(n:Int)):=by omega
  first|have:(n:Int)≤55295:=by omega|have:¬ ((n:Int)≤55295):=by omega
  first|have:(57344:Int)≤(n:Int):=by omega|have:¬ ((57344:Int)≤(n:Int)):=by omega
  first|have:(n:Int)≤65533:=by omega|have:¬ ((n:Int)≤65533):=by omega
  first|have:(65536:Int)≤(n:Int):=by omega|have:¬ ((65536:Int)≤(n:Int)):=by omega
  first|have:(n:Int)≤1114111:=by omega|have:¬ ((n:Int)≤1114111):=by omega
  first|have:(((n:Int))==(9))=true:=by (simp;omega)|have:(((n:Int))==(9))=false:=by (simp;omega)
  first|have:(((n:Int))==(10))=true:=by (simp;omega)|have:(((n:Int))==(10))=false:=by (simp;omega)
  first|have:(((n:Int))==(13))=true:=by (simp;omega)|have:(((n:Int))==(13))=false:=by (simp;omega)
  clear h;go_enter func100,ntmps100
  go_wp2;go_ret
  refine ⟨?_,rfl⟩;have:=c.o
  first
   | (rw [show bW n=true from b.o.2 (by omega)];rfl)
   | (rw [show bW n=false from by
     rw [←Bool.not_eq_true];intro d;have:=b.o.1 d;omega];rfl)
theorem y9 (x:Cx) (c:DC) (w:World) (v:DV) (h:bR w x.d c v) :
  Calls prog 44 #[.pointer (some ⟨x.d,0,none⟩)] w fun e w'=>e=.returned (.int .i64 v.off)∧w'=w:=by
 have i:=h.cell;have j:=h.frozen;obtain ⟨k,l,g,b,a,f,d⟩:=v;clear h;go_enter func44,ntmps44
 go_wp2;go_ret
 exact ⟨rfl,rfl⟩
theorem FW (x:Cx) (c:DC) (w:World) (v:DV) (h:bR w x.d c v) (f:-1000000000000≤v.off-v.lstart) (g:v.off-v.lstart≤1000000000000) :
  Calls prog 45 #[.pointer (some ⟨x.d,0,none⟩)] w fun e w'=>e=.returned (.tuple #[.int .i64 v.line,.int .i64 (v.off-v.lstart+1)])∧∃ n,w'=w.drewN n:=by
 have k:=h.cell;have l:=h.frozen;obtain ⟨m,o,j,b,a,i,d⟩:=v;simp only at f g;clear h;go_enter func45,ntmps45
 go_wp2;go_quiet (fail);go_wp2;go_ret2
 exact ⟨rfl,_,rfl⟩
end Go.Proofs.YthapcchcahnfaaaGreatDoor
