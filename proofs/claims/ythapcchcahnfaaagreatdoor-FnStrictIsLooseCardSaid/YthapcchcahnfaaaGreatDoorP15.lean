/- Part of the proof that laws.FnStrictIsLoose, laws.FnUnclosed, laws.FnReaderFails, laws.FnWithin, laws.FnSkip returns true for every argument. No conditions. -/
import Derived.Test.YthapcchcahnfaaaGreatDoorP13
import Derived.Test.YthapcchcahnfaaaGreatDoorP14
import Derived.Shelf.Unicode.PredsPay
import Derived.Lib.SlBytesRow
import Derived.Laws.ResultCell
set_option linter.all false
set_option maxHeartbeats 8000000
set_option maxRecDepth 100000
namespace Go.Proofs.YthapcchcahnfaaaGreatDoor
open Go Go.RowKit Tryz
theorem y8:∀ (T:List Lib.Rg) (i:Nat),i<T.length→∀ j,j<3→(T.flatMap fun r=>[Value.int .u16 r.1,.int .u16 r.2.1,.int .u16 r.2.2])[i*3+j]?=([Value.int .u16 (T.getD i (0,0,0)).1,.int .u16 (T.getD i (0,0,0)).2.1,.int .u16 (T.getD i (0,0,0)).2.2])[j]?
 | [],i,a,_,_=>by simp at a
 | r::T,0,_,j,b=>by
  simp only [List.flatMap_cons,Nat.zero_mul,Nat.zero_add];rw [List.getElem?_append_left (by simpa using b)];simp
 | r::T,i+1,a,j,b=>by
  simp only [List.flatMap_cons];rw [EG (by simp;omega),show (i+1)*3+j-[Value.int .u16 r.1,.int .u16 r.2.1,.int .u16 r.2.2].length=i*3+j by simp;omega,y8 T i (by simpa using a) j b];simp
theorem P5 (T:Lib.RTab) (a:T.r32=#[]) (c:T.off=0) (w:World):Lib.RTabAt (w.alloc (.cells (lY T.r16) 248)).heap.size 0 T (pA T w):=by
 have d:aJ (pA T w) (w.alloc (.cells (lY T.r16) 248)).heap.size #[.slice (some ⟨w.heap.size,0,none⟩) T.r16.size T.r16.size,.slice none 0 0,.int .i64 0] 245:=aJ.new _ _ _;have f:aJ (pA T w) w.heap.size (lY T.r16) 248:=(aJ.new w (lY T.r16) _).alloc _;refine ⟨some ⟨w.heap.size,0,none⟩,none,w.heap.size,0,T.r16.size,0,0,0,by rw [d.cell];rfl,by rw [d.cell,a];rfl,by rw [d.cell,c];rfl,fun _=>rfl,fun h=>by rw [a] at h;simp at h,?_,fun i b=>by rw [a] at b;simp at b,dD _⟩;intro i b;have k:i<T.r16.toList.length:=by simpa using b
 have e:=fun j l=>y8 T.r16.toList i k j l;have g:T.r16.toList.getD i (0,0,0)=T.r16.getD i (0,0,0):=by simp [Array.getD,sR,b]
 rw [g] at e;refine ⟨?_,?_,?_⟩
 ·rw [f.cell];have:=e 0 (by omega);simpa [lY] using this
 ·rw [f.cell];have:=e 1 (by omega);simpa [lY,Nat.add_assoc] using this
 ·rw [f.cell];have:=e 2 (by omega);simpa [lY,Nat.add_assoc] using this
theorem x5 (B:Nat) (T:Array Lib.Rg) (h:T.toList.all (fun r=>decide (r.1<B)&&decide (r.2.1<B)&&decide (r.2.2<B)&&decide (1≤r.2.2))=true):Lib.RgOk B T:=by
 intro i a;have b:T.getD i (0,0,0)∈T.toList:=by simp [Array.getD,a]
 have:=List.all_eq_true.1 h _ b;simp only [G9,KF] at this;exact ⟨this.1.1.1,this.1.1.2,this.1.2,this.2⟩
theorem P6:Lib.RTabOk jI:=⟨x5 _ _ (by kernel_rfl),x5 _ _ rfl,by show (jI.r16.size≤_);rw [show jI.r16.size=190 by kernel_rfl];omega,by show (0:Nat)≤_;omega,by show (0:Nat)<_;omega,by show (0:Nat)≤_;omega⟩
theorem MI:Lib.RTabOk jV:=⟨x5 _ _ (by kernel_rfl),x5 _ _ rfl,by show (jV.r16.size≤_);rw [show jV.r16.size=112 by kernel_rfl];omega,by show (0:Nat)≤_;omega,by show (0:Nat)<_;omega,by show (0:Nat)≤_;omega⟩
theorem rB (T:Lib.RTab) (w:World):Below w.heap.size w (pA T w):=((Below.refl w.heap.size w).alloc (dD _) _).alloc (by simp) _
theorem UE (w:World):Calls prog 118 #[] w fun e w'=>∃ a,e=.returned (.pointer (some ⟨a,0,none⟩))∧Lib.RTabAt a 0 jI w'∧Below w.heap.size w w':=
 (UD w).mono fun e w' ⟨c,b⟩=>⟨_,c,by rw [b];exact P5 _ rfl rfl w,by rw [b];exact rB _ w⟩
theorem P7 (w:World):Calls prog 119 #[] w fun e w'=>∃ a,e=.returned (.pointer (some ⟨a,0,none⟩))∧Lib.RTabAt a 0 jV w'∧Below w.heap.size w w':=
 (P4 w).mono fun e w' ⟨c,b⟩=>⟨_,c,by rw [b];exact P5 _ rfl rfl w,by rw [b];exact rB _ w⟩
def bN (w:World) (b a:Nat) (l:Bs):Prop:=∀ j,j<l.length→w.cell? ⟨b,a+j,none⟩=some (.int .u8 (l.getD j 0).toNat)
theorem bN.below {w w':World} {b a:Nat} {l:Bs} (h:bN w b a l) (c:Below w.heap.size w w'):bN w' b a l:=fun j d=>cell_below c (h j d)
theorem bN.drop {w:World} {b a:Nat} {l:Bs} (h:bN w b a l) (n:Nat):bN w b (a+n) (l.drop n):=by
 intro j c;simp only [eY] at c;have:=h (n+j) (by omega);rw [←Nat.add_assoc] at this;rw [this];simp [sR,List.getElem?_drop]
theorem P8 (l:Bs) (b a c:Nat) (w:World) (g:Lib.Utf8Tabs 6 7 w) (h:bN w b a l) :
  Calls prog 99 #[.slice (some ⟨b,a,none⟩) l.length c] w fun e w'=>e=.returned (.tuple #[.int .i32 (dM l).1,.int .i64 (dM l).2])∧Below w.heap.size w w':=by
 have f:(⟨l.toArray⟩:ByteArray).size=l.length:=rfl;have:=DI ⟨l.toArray⟩ b a c w g (fun j d=>by
  rw [f] at d;rw [h j d];have:(⟨l.toArray⟩:ByteArray).get! j=l.getD j 0:=by simp [ByteArray.get!,sR,d]
  rw [this])
 rw [f] at this;exact this
theorem rC (l:Bs) (h:l≠[]):1≤(dM l).2:=by
 have:(⟨l.toArray⟩:ByteArray).size=l.length:=rfl;have a:l.length≠0:=by simpa using h
 unfold dM Lib.decodeGoB;rw [this,aN a];exact Lib.width_pos _ _
theorem DK (l:Bs):(dM l).1≤1114111:=by
 unfold dM Lib.decodeGoB;split
 ·decide
 ·exact Lib.rune_le _ _
theorem E5 (l:Bs) (b P G:Nat) (w:World) (M:l≠[]) (hT:Lib.Utf8Tabs 6 7 w) (hp:bN w b P l) (hl:l.length≤100000000000000) (b8:l.length≤G) (b9:G≤9223372036854775807) :
  Calls prog 96 #[.slice (some ⟨b,P,none⟩) l.length G] w fun e w'=>e=.returned (.bool (dJ l))∧Below w.heap.size w w':=by
 have b2:((l.length:Int)==0)=false:=by simpa using M
 have j:=Lib.hid (P8 l b P G w hT hp);have R:=Lib.hid (show dJ l=(if (dM l).1=65533∧(dM l).2=1 then false else if iO (dM l).1 then eN gD (l.length-1) (l.drop (dM l).2) else false) by
  have:l.length=(l.length-1)+1:=by
   have:l.length≠0:=by simpa using M
   omega
  unfold dJ;rw [aN M];conv=>lhs;rw [this]
  rw [eN,aN M])
 have HT:=Lib.hid hT;have HP:=Lib.hid hp;have x:=DK l;have b4:=rC l M;have bL:=Lib.hid UE;have c2:=Lib.hid P7;have b0:=Lib.hid (fun (S:Nat) (r:Nat) (w:World) (hr:r≤1114111) (B:Lib.RTabAt S 0 jI w)=>Tryz.unicode_Is_any S 0 jI r w (by omega) (by omega) B P6);have c1:=Lib.hid (fun (S:Nat) (r:Nat) (w:World) (hr:r≤1114111) (B:Lib.RTabAt S 0 jV w)=>Tryz.unicode_Is_any S 0 jV r w (by omega) (by omega) B MI);obtain ⟨r,hr⟩:∃ r,r=(dM l).1:=⟨_,rfl⟩;obtain ⟨n,hn⟩:∃ n,n=(dM l).2:=⟨_,rfl⟩;rw [←hr] at j R x;rw [←hn] at j R b4;have b6:=Lib.hid x;clear hr hn hT hp x;have I:(((r:Int)==65533)=false)∨(((r:Int)==65533)=true∧((n:Int)==1)=false)∨(((r:Int)==65533)=true∧((n:Int)==1)=true):=by
  cases ((r:Int)==65533)<;>cases ((n:Int)==1)<;>simp
 rcases I with T|⟨T,A⟩|⟨T,A⟩;case inr.inr=>
  go_enter func96,ntmps96
  go_wp2_with fail;refine j.out.mono ?_;rintro e1 w1 ⟨rfl,i⟩;have t:=Lib.hid i;clear i;go_wp2;go_ret
  refine ⟨?_,t.out⟩;rw [R.out,aV ⟨(by have:(r:Int)=65533:=(by simpa using T);omega),(by have:(n:Int)=1:=(by simpa using A);omega)⟩];rfl
 all_goals
  have X:Hid (dJ l=(if iO r then eN gD (l.length-1) (l.drop n) else false)):=by
   have:=R.out;rw [aN (by intro h;simp_all)] at this;exact this
  go_enter func96,ntmps96
  go_wp2_with fail;refine j.out.mono ?_;rintro e1 w1 ⟨rfl,i⟩;have t:=Lib.hid i;clear i;go_wp2_with fail;refine (bL.out _).mono ?_;rintro e2 w2 ⟨S,rfl,B,u⟩;have c:=Lib.hid (b0.out S r w2 b6.out B);have C:=Lib.hid (t.out.trans (u.mono t.out.size));clear B u;go_wp2_with fail;refine c.out.mono ?_;rintro e3 w3 ⟨rfl,H⟩;have z:=Lib.hid (C.out.trans (H.mono C.out.size));clear H c;have g:Lib.isGo jI (r:Int)=false∨Lib.isGo jI (r:Int)=true:=by cases Lib.isGo jI (r:Int)<;>simp
  rcases g with g|g
  ·go_wp2;go_ret
   refine ⟨?_,z.out⟩;rw [X.out,aN (by unfold iO;rw [g];simp)];rfl
  ·have a6:Hid (dJ l=eN gD (l.length-1) (l.drop n)):=by
    have:=X.out;rw [aV (by unfold iO;exact g)] at this;exact this
   go_wp2;clear g T b2 j;go_loopg [0,3,4] l.length (fun k s _ nv wr=>∃ (d:Bs) (o Q a:Nat),s=.slice (some ⟨b,o,none⟩) d.length Q∧nv=.int .i64 a∧d.length=k∧d.length≤100000000000000∧1≤a∧d.length≤Q∧Q≤9223372036854775807∧(∃ m,d=l.drop m∧o=P+m)∧(∃ f,d.length≤f+1∧dJ l=eN gD f (d.drop a))∧Below w.heap.size w wr)
   case atStart=>exact ⟨l,P,G,n,rfl,rfl,rfl,hl,b4,b8,b9,⟨0,rfl,rfl⟩,⟨l.length-1,by omega,a6.out⟩,z.out⟩
   case round=>
    obtain ⟨d,o,Q,a,rfl,rfl,hk,b1,b3,aA,aC,⟨m,U,V⟩,⟨f,hf,O⟩,J⟩:=hrel;have a7:=Lib.hid U;have a8:=Lib.hid V;have a2:bN wr b o d:=by rw [U,V];exact (HP.out.below J).drop m
    have HK:=Lib.hid hk;have HF:=Lib.hid hf;have c3:=Lib.hid O;have D:=Lib.hid J;have a1:((a:Int)<(d.length:Int))∨¬ ((a:Int)<(d.length:Int)):=by omega
    rcases a1 with a1|a1
    ·have L:=a2.drop a;have j:=P8 (d.drop a) b (o+a) (Q-a) wr (Utf8Tabs_below HT.out J) L;rw [eY] at j;have N:d.drop a≠[]:=by
      intro h;have:=congrArg List.length h;simp at this;omega
     have cT:∃ Y,f=Y+1:=⟨f-1,by omega⟩;obtain ⟨Y,rfl⟩:=cT;have q:Hid (dJ l=(if (dM (d.drop a)).1=65533∧(dM (d.drop a)).2=1 then false else if gD (dM (d.drop a)).1 then eN gD Y ((d.drop a).drop (dM (d.drop a)).2) else false)):=by
      have:=O;rw [eN,aN N] at this;exact this
     have x:=DK (d.drop a);have a0:=rC (d.drop a) N;obtain ⟨y,b5⟩:∃ r,r=(dM (d.drop a)).1:=⟨_,rfl⟩;obtain ⟨W,aL⟩:∃ n,n=(dM (d.drop a)).2:=⟨_,rfl⟩;rw [←b5] at j q x;rw [←aL] at j q a0;have a5:=Lib.hid j;have bA:=Lib.hid x;have a9:=Lib.hid a0;have c4:¬ Q=a:=by omega
     have q1:(0:Int)≤(a:Int):=by omega
     have q2:(d.length:Int)≤(Q:Int):=by omega
     have q3:(a:Int)≤(d.length:Int):=by omega
     have q4:(a:Int)≤(Q:Int):=by omega
     have q5:(d.length:Int)≤100000000000000:=by omega
     have p:=Lib.hid (And.intro b3 (And.intro b1 (And.intro aA aC)));clear U V hk hf O J a2 L N j x a0 b5 aL b1 b3 aA aC;have I:(((y:Int)==65533)=false)∨(((y:Int)==65533)=true∧((W:Int)==1)=false)∨(((y:Int)==65533)=true∧((W:Int)==1)=true):=by
      cases ((y:Int)==65533)<;>cases ((W:Int)==1)<;>simp
     rcases I with T|⟨T,A⟩|⟨T,A⟩;case inr.inr=>
      go_wp2_with fail;refine a5.out.mono ?_;rintro e1 w1 ⟨rfl,i⟩;have t:=Lib.hid i;clear i;go_wp2;(try simp only [Exit.inBlock,Exit.then])
      go_ret
      refine ⟨?_,D.out.trans (t.out.mono D.out.size)⟩;rw [q.out,aV ⟨(by have:(y:Int)=65533:=(by simpa using T);omega),(by have:(W:Int)=1:=(by simpa using A);omega)⟩];rfl
     all_goals
      have E:Hid (dJ l=(if gD y then eN gD Y ((d.drop a).drop W) else false)):=by
       have:=q.out;rw [aN (by
        rintro ⟨h1,h2⟩;rw [h1] at T;try rw [h2] at A
        simp_all)] at this
       exact this
      go_wp2_with fail;refine a5.out.mono ?_;rintro e1 w1 ⟨rfl,i⟩;have t:=Lib.hid (D.out.trans (i.mono D.out.size));clear i;go_wp2_with fail;refine (bL.out _).mono ?_;rintro e2 w2 ⟨S,rfl,B,u⟩;have c:=Lib.hid (b0.out S y w2 bA.out B);have C:=Lib.hid (t.out.trans (u.mono t.out.size));clear B u;go_wp2_with fail;refine c.out.mono ?_;rintro e3 w3 ⟨rfl,H⟩;have z:=Lib.hid (C.out.trans (H.mono C.out.size));clear H c;have g:Lib.isGo jI (y:Int)=false∨Lib.isGo jI (y:Int)=true:=by cases Lib.isGo jI (y:Int)<;>simp
      rcases g with g|g
      ·go_wp2_with fail;refine (c2.out _).mono ?_;rintro e4 w4 ⟨b7,rfl,B,Z⟩;have c:=Lib.hid (c1.out b7 y w4 bA.out B);have a3:=Lib.hid (z.out.trans (Z.mono z.out.size));clear B Z;go_wp2_with fail;refine c.out.mono ?_;rintro e5 w5 ⟨rfl,bC⟩;have a4:=Lib.hid (a3.out.trans (bC.mono a3.out.size));clear bC c;have v:Lib.isGo jV (y:Int)=false∨Lib.isGo jV (y:Int)=true:=by cases Lib.isGo jV (y:Int)<;>simp
       rcases v with v|v
       ·go_wp2;(try simp only [Exit.inBlock,Exit.then])
        go_ret
        refine ⟨?_,a4.out⟩;rw [E.out,aN (by unfold gD;rw [g,v];simp)];rfl
       ·have F:=Lib.hid (show dJ l=eN gD Y ((d.drop a).drop W) by rw [E.out,aV (by unfold gD;rw [v];simp)]);go_wp2;go_roundg (d.length-a)
        case measure=>have:=HK.out;have:=p.out;omega
        case rel=>exact ⟨d.drop a,o+a,Q-a,W,by rw [eY],rfl,by rw [eY],by rw [eY];have:=p.out;omega,a9.out,by rw [eY];have:=p.out;omega,by have:=p.out;omega,⟨m+a,by rw [a7.out,List.drop_drop],by rw [a8.out];omega⟩,⟨Y,by rw [eY];have:=HF.out;have:=p.out;omega,F.out⟩,a4.out⟩
      ·have F:=Lib.hid (show dJ l=eN gD Y ((d.drop a).drop W) by rw [E.out,aV (by unfold gD;rw [g];simp)]);go_wp2;go_roundg (d.length-a)
       case measure=>have:=HK.out;have:=p.out;omega
       case rel=>exact ⟨d.drop a,o+a,Q-a,W,by rw [eY],rfl,by rw [eY],by rw [eY];have:=p.out;omega,a9.out,by rw [eY];have:=p.out;omega,by have:=p.out;omega,⟨m+a,by rw [a7.out,List.drop_drop],by rw [a8.out];omega⟩,⟨Y,by rw [eY];have:=HF.out;have:=p.out;omega,F.out⟩,z.out⟩
    ·have q:=Lib.hid (show dJ l=true by
      rw [O,show d.drop a=[] by apply vN;omega];cases f<;>simp [eN])
     clear U V hk hf O J a2;go_wp2;(try simp only [Exit.inBlock,Exit.then])
     go_ret
     exact ⟨by rw [q.out];rfl,D.out⟩
structure Cx.Fit (x:Cx):Prop extends Cx.Ok x where
 u8:Lib.Utf8Tabs 6 7 x.W0
theorem Cx.Fit.tabs {x:Cx} (a:x.Fit) {w:World} (h:Below x.B x.W0 w):Lib.Utf8Tabs 6 7 w:=Utf8Tabs_below a.u8 h
abbrev aB (s:Bs):Value:=.string ⟨s.toArray⟩
theorem dB.ofS0 {x:Cx} {w w':World} {v v':DV} (c:aM x.S0 w w') (a:∀ k,eM v'.bufv k↔eM v.bufv k):dB x w v w' v':=
 ⟨c.mono (fun _ _ h=>aH h),fun k b=>aH ((a k).1 b)⟩
theorem mT.bytes {x:Cx} {w:World} {v:Value} {a:Bs} (h:mT x w v a) (e:a≠[]):∃ g b,v=.slice (some ⟨g,0,none⟩) a.length b∧bN w g 0 a∧a.length≤b∧b≤9223372036854775807∧x.B≤g∧¬ x.S0 g∧g<w.heap.size:=by
 rcases h with ⟨_,l⟩|⟨g,b,arr,p,f,o,n,c,i,k,d⟩
 ·exact absurd l e
 ·exact ⟨g,b,p,fun j m=>by rw [Nat.zero_add,f.cell];exact d j m,n,c,i,k,f.lt⟩
theorem bN.toBytes {w:World} {b c:Nat} {l:Bs} (h:bN w b c l):Lib.Bytes w b c ⟨l.toArray⟩:=by
 intro i d;have a:i<l.length:=d;rw [h i a];simp [sR,a];rfl
theorem nI (l:Bs) (w:World) (b a c:Nat) (h:bN w b a l):(convert 81 9 (.slice (some ⟨b,a,none⟩) l.length c)).run prog w=.ok (aB l) w:=
 Lib.run_convert_whole (P:=prog) w 81 5 9 underlying81 underlying5 underlying9 b a ⟨l.toArray⟩ h.toBytes c
theorem lC (l:Bs):(aD l).1.length+(aD l).2.length=l.length:=by
 induction l with
 | nil=>rfl
 | cons b r ih=>unfold aD;split<;>simp<;>omega
def P9 (x:Cx) (c:DC) (w:World) (v:DV) (k:EK):Prop:=jM x c w v k∨(k=.syn∧∃ r b,cK x c w v r none b)
def QA (x:Cx) (c:DC) (w':World) (v':DV) (a:Ending):Except EK (Bs×Bs)→Prop
 | .error k=>a=.returned (.tuple #[.string ⟨#[]⟩,.bool false])∧P9 x c w' v' k
 | .ok (s,r)=>a=.returned (.tuple #[aB s,.bool true])∧cK x c w' v' r none s
theorem aG {w w':World} (a:Below w.heap.size w w') (S:Nat→Prop):aM S w w':=⟨a.os,a.tape,a.output,a.size,fun i b _=>a.block i b⟩
theorem cK.syn {x:Cx} {c:DC} {w w':World} {v:DV} {rest:Bs} {e:Option EK} {b:Bs} (h:cK x c w v rest e b) (f:x.Ok) (d:Below w.heap.size w w') (a:Addr) :
  jM x c (w'.setCell ⟨x.d,20,none⟩ (.iface 113 (.pointer (some a)))) { v with err:=.iface 113 (.pointer (some a)) } .syn:=
 ⟨(aM.below h.base h.base.size (aG d (fun _=>False)) (fun _ h=>h.elim)).setCell f.d _,(show aJ _ x.d _ _ from aJ.mod (S:=fun _=>False) h.dec (aG d _) id).set 20 _,⟨a,rfl⟩⟩
theorem dB.syn {x:Cx} {w0 w w':World} {v0 v:DV} (h:dB x w0 v0 w v) (a:Below w.heap.size w w') (u:Value):dB x w0 v0 (w'.setCell ⟨x.d,20,none⟩ u) { v with err:=u }:=
 h.s0 ((aG a x.S0).setCell (p:=⟨x.d,20,none⟩) (aH (aH rfl)) u) rfl
theorem cK.below {x:Cx} {c:DC} {w w':World} {v:DV} {rest:Bs} {e:Option EK} {a:Bs} (h:cK x c w v rest e a) (g:x.Ok) (b:Below w.heap.size w w'):cK x c w' v rest e a:=by
 obtain ⟨i,d,f⟩:=h.inp;exact h.step g (aJ.mod (S:=fun _=>False) h.dec (aG b _) id) (aG b _) ⟨i,d.mod (aG b (fun _=>False)) id id id,f⟩ h.pos h.err h.fin rfl
theorem MJ {f:Bool} {rest:Bs} (h:(aD rest).2=[]):eE f rest=.error (cE f):=by unfold eE;rw [aV h]
theorem IS {f:Bool} {rest:Bs} (h:(aD rest).2≠[]) (a:(aD rest).1=[]):eE f rest=.error .syn:=by unfold eE;rw [aN h,aV a]
theorem IT {f:Bool} {rest:Bs} (h:(aD rest).2≠[]) (a:(aD rest).1≠[]):eE f rest=if dJ (aD rest).1 then .ok (aD rest) else .error .syn:=by unfold eE;rw [aN h,aN a]
theorem QB (x:Cx) (P:x.Fit) (c:DC) (E:iU x c) (w:World) (v:DV) (rest:Bs) (e:Option EK) (B:Bs) (h:cK x c w v rest e B) :
  Calls prog 68 #[.pointer (some ⟨x.d,0,none⟩)] w fun en w'=>∃ v',dB x w v w' v' ∧
   QA x c w' v' en (eE x.o.fails rest):=by
 have N:=Lib.hid P;have HD:=Lib.hid E;have T:=Lib.hid (show rest.length≤1000000000 from fX (h.suf.length_le) P.len);have I:=Lib.hid (pW x P.toOk c w v rest e B h);clear h P E;go_enter func68,ntmps68
 go_wp2_with fail;refine I.out.mono ?_;rintro e1 w1 ⟨rfl,v1,h1,aL,D,G,a1⟩;have H:=Lib.hid (y7 x N.out.toOk c HD.out w1 v1 rest e [] h1 (by simp));have m:=Lib.hid (dB.ofS0 G D);clear h1 aL D G a1 I;go_wp2_with fail;refine H.out.mono ?_;rintro e2 Q ⟨t,J,hq⟩;have n:=Lib.hid (m.out.trans J);clear J H;rcases hq with ⟨b,rfl,he⟩|⟨b,d,rfl,j⟩|⟨b,d,rfl,j⟩
 ·have HE:=Lib.hid he;have o:=Lib.hid b;clear he b;go_wp2;go_ret2
  refine ⟨t,n.out,?_⟩;rw [MJ o.out];exact ⟨rfl,aH HE.out⟩
 ·have V:=Lib.hid j;have o:=Lib.hid b;have m:=Lib.hid d;clear j b d;go_wp2;go_ret2
  refine ⟨t,n.out,?_⟩;rw [IS o.out m.out];exact ⟨rfl,aW ⟨rfl,_,_,V.out⟩⟩
 ·rw [List.nil_append] at j;obtain ⟨l,O⟩:∃ l,l=(aD rest).1:=⟨_,rfl⟩;have a5:l.length≤1000000000:=by have:=lC rest;have:=T.out;rw [O];omega
  have z:=Lib.hid (show eE x.o.fails rest=if dJ l then .ok (l,(aD rest).2) else .error .syn by
   rw [IT b d,O])
  rw [←O] at j d;obtain ⟨g,C,hv,a,aC,Z,W,X,a2⟩:=j.bf.bytes d;have q:=Lib.hid (mX x c Q t _ none l j);have F:=Lib.hid (fun k=>E5 l g 0 C (Q.drewN k) d (N.out.tabs (bP j.base k)) a (by omega) aC Z);have V:=Lib.hid j;have R:=Lib.hid a;clear j a b O W X;rw [hv] at q;go_wp2_with fail;refine q.out.mono ?_;rintro e3 w3 ⟨rfl,k,rfl⟩;go_wp2_with fail;refine (F.out k).mono ?_;rintro e4 u ⟨rfl,i⟩;have f:Below Q.heap.size Q u:=⟨i.os,i.tape,i.output,i.size,i.block⟩;have h4:=V.out.below N.out.toOk f;have A:=Lib.hid (n.out.s0 (aG f _) rfl);have aA:=nI l u g 0 C (R.out.below f);have M:=Lib.hid h4;clear i f F q h4;have r:dJ l=true∨dJ l=false:=by cases dJ l<;>simp
  rcases r with Y|Y
  ·have U:=Lib.hid (show eE x.o.fails rest=.ok (l,(aD rest).2) by rw [z.out,aV Y]);go_wp2;go_ret2
   refine ⟨t,A.out,?_⟩;rw [U.out];exact ⟨rfl,M.out⟩
  ·have U:=Lib.hid (show eE x.o.fails rest=.error .syn by rw [z.out,Y];rfl);have a0:=Lib.hid (DF x.d c t u M.out.dec);go_wp2_with fail;refine (a0.out _).mono ?_;rintro e5 w5 ⟨rfl,L⟩;have p:Below u.heap.size u w5:=by rw [L];exact (Below.refl _ u).alloc (dD _) _
   have s:bX w5 x.d c t:=aJ.mod (S:=fun _=>False) M.out.dec (aG p _) id;have a3:=s.cell;have a4:=s.frozen;have y:=Lib.hid p;clear L s p;go_wp2;go_ret2
   refine ⟨{ t with err:=.iface 113 (.pointer (some ⟨u.heap.size,0,none⟩)) },A.out.syn y.out _,?_⟩;rw [U.out];exact ⟨rfl,aH (M.out.syn N.out.toOk y.out _)⟩
def lM (p:Bs):Bs→Option Nat
 | []=>if p=[] then some 0 else none
 | b::r=>if p.isPrefixOf (b::r) then some 0 else (lM p r).map (·+1)
def vZ (p l:Bs):Int:=match lM p l with|none=>-1|some k=>k
theorem y9 (p:Bs):∀ l:Bs,l.length<p.length→lM p l=none
 | [],h=>by unfold lM;rw [aN (by intro e;subst e;simp at h)]
 | b::r,h=>by
  unfold lM;rw [aN (by
   intro a;have:=(List.isPrefixOf_iff_prefix.1 a).length_le;omega),y9 p r (by simp at h;omega)]
  rfl
theorem QC (p l:Bs) (h:p.isPrefixOf l=true):lM p l=some 0:=by
 cases l with
 | nil=>unfold lM;rw [aV (by simpa using h)]
 | cons b r=>unfold lM;rw [aV h]
theorem MK (p l:Bs) (h:p.isPrefixOf l=false) (a:p.length≤l.length):lM p l=(lM p (l.drop 1)).map (·+1):=by
 cases l with
 | nil=>
  have:p=[]:=by simpa using a
  subst this;simp at h
 | cons b r=>
  conv=>lhs;unfold lM
  rw [aN (by rw [h];simp)];rfl
theorem mY (l p:Bs) (i:Nat):((⟨l.toArray⟩:ByteArray).extract i (i+p.length)=⟨p.toArray⟩)↔p.isPrefixOf (l.drop i)=true:=by
 rw [List.isPrefixOf_iff_prefix,List.prefix_iff_eq_take];have e:((⟨l.toArray⟩:ByteArray).extract i (i+p.length)).data.toList=(l.drop i).take p.length:=by
  rw [Lib.extract_data];simp
 constructor
 ·intro a;rw [a] at e;simpa using e
 ·intro a;apply ByteArray.ext
  apply Array.toList_inj.1
  rw [e,←a]
theorem BW (l p:Bs) (w:World) (v:l.length≤1000000000000) (x:p.length≤1000000000000) (s:1≤p.length) :
  Calls prog 105 #[aB l,aB p] w fun o w'=>o=.returned (.int .i64 (vZ p l))∧w'=w:=by
 have q:(l.length:Int)≤1000000000000:=by omega
 have r:(p.length:Int)≤1000000000000:=by omega
 go_enter func105,ntmps105
 go_wp2;go_loopg [5] (l.length+1) (fun k u wr=>∃ i:Nat,u=.int .i64 i∧i+k=l.length+1∧lM p l=(lM p (l.drop i)).map (·+i)∧wr=w)
 case atStart=>exact ⟨0,rfl,by omega,by simp,rfl⟩
 case round=>
  obtain ⟨i,rfl,j,c,rfl⟩:=hrel;have a:=Lib.hid c;have g:=Lib.hid j;have y:(0:Int)≤(i:Int):=by omega
  have z:(i:Int)≤1000000000001:=by omega
  clear c j;have f:((i:Int)+(p.length:Int)≤(l.length:Int))∨¬ ((i:Int)+(p.length:Int)≤(l.length:Int)):=by omega
  rcases f with f|f
  ·have b:((⟨l.toArray⟩:ByteArray).extract i (i+p.length)=⟨p.toArray⟩)∨¬ ((⟨l.toArray⟩:ByteArray).extract i (i+p.length)=⟨p.toArray⟩):=Classical.em _;rcases b with b|b
   ·have d:=(mY l p i).1 b;have e:=Lib.hid (show vZ p l=i by unfold vZ;rw [a.out,QC _ _ d];simp);go_wp2;go_ret
    exact ⟨by rw [e.out];rfl,rfl⟩
   ·have d:p.isPrefixOf (l.drop i)=false:=by
     rw [←Bool.not_eq_true];exact fun h=>b ((mY l p i).2 h)
    have m:=Lib.hid (show lM p l=(lM p (l.drop (i+1))).map (·+(i+1)) by
     rw [a.out,MK _ _ d (by rw [eY];omega),Option.map_map,List.drop_drop]
     congr 1
     funext n
     simp;omega)
    have t:(((⟨l.toArray⟩:ByteArray).extract i (i+p.length)).toList==p)=false:=by
     rw [lV];intro h;apply b
     apply ByteArray.ext
     apply Array.toList_inj.1
     rw [ByteArray.toList_eq] at h;exact h.trans (by simp)
    clear d b;go_wp2;go_roundg (gk-1)
    case measure=>have:=g.out;omega
    case rel=>exact ⟨i+1,by simp,by have:=g.out;omega,m.out,rfl⟩
  ·have e:=Lib.hid (show vZ p l=-1 by
    unfold vZ;rw [a.out,y9 _ _ (by rw [eY];omega)];rfl)
   go_wp2;go_ret
   exact ⟨by rw [e.out];rfl,rfl⟩
theorem QD (l:Bs) (k:Nat):(⟨l.toArray⟩:ByteArray).extract 0 k=⟨(l.take k).toArray⟩:=by
 apply ByteArray.ext
 apply Array.toList_inj.1
 rw [Lib.extract_data];simp
theorem rD (l:Bs) (k:Nat):(⟨l.toArray⟩:ByteArray).extract k l.length=⟨(l.drop k).toArray⟩:=by
 apply ByteArray.ext
 apply Array.toList_inj.1
 rw [Lib.extract_data];simp [List.take_of_length_le]
theorem DL (p:Bs):∀ (l:Bs) (k:Nat),lM p l=some k→k+p.length≤l.length
 | [],k,h=>by
  unfold lM at h;split at h
  ·rename_i a;subst a;simp only [kD] at h;subst h;simp
  ·cases h
 | b::r,k,h=>by
  unfold lM at h;split at h
  ·rename_i a;simp only [kD] at h;subst h;have:=(List.isPrefixOf_iff_prefix.1 a).length_le;omega
  ·rw [Option.map_eq_some_iff] at h;obtain ⟨j,c,rfl⟩:=h;have:=DL p r j c;simp;omega
theorem UF (l p:Bs) (w:World) (i:l.length≤1000000000000) (j:p.length≤1000000000000) (e:1≤p.length) :
  Calls prog 102 #[aB l,aB p] w fun f w'=>∃ n,w'=w.drewN n ∧
   ((∃ k,lM p l=some k∧f=.returned (.tuple #[aB (l.take k),aB (l.drop (k+p.length)),.bool true]))∨(lM p l=none∧f=.returned (.tuple #[aB l,aB [],.bool false]))):=by
 have c:=Lib.hid (BW l p w i j e);cases a:lM p l with
 | none=>
  have b:vZ p l=-1:=by unfold vZ;rw [a]
  rw [b] at c;have d:=Lib.hid a;clear a b;go_enter func102,ntmps102
  go_wp2_with fail;refine c.out.mono ?_;rintro g w1 ⟨rfl,rfl⟩;go_wp2;go_ret3
  exact ⟨0,rfl,aW ⟨trivial,rfl⟩⟩
 | some k=>
  have b:vZ p l=k:=by unfold vZ;rw [a]
  rw [b] at c;have h:=DL p l k a;have m:(0:Int)≤(k:Int):=by omega
  have o:(k:Int)+(p.length:Int)≤(l.length:Int):=by omega
  have q:(l.length:Int)≤1000000000000:=by omega
  have r:(k:Int)≤(l.length:Int):=by omega
  have d:=Lib.hid a;clear a b;go_enter func102,ntmps102
  go_wp2_with fail;refine c.out.mono ?_;rintro g w1 ⟨rfl,rfl⟩;go_wp2;go_quiet (fail);go_wp2;go_ret3
  refine ⟨nq,rfl,aH ⟨k,rfl,?_⟩⟩;simp only [aB];rw [←QD,←rD];rfl
theorem QE (l:Bs) (i:Nat) (b:i<l.length):eO (l.drop i)=(if [(58:UInt8)].isPrefixOf (l.drop i) then 1 else 0)+eO (l.drop (i+1)):=by
 rw [EF b];unfold eO;simp only [List.filter_cons,List.isPrefixOf,Bool.and_true];by_cases h:l[i]=58
 ·simp [h];omega
 ·have a:¬ (58:UInt8)=l[i]:=fun e=>h e.symm;simp [h,a]
theorem UG (l:Bs) (i:Nat) (a:l.length≤i):eO (l.drop i)=0:=by
 rw [vN a];rfl
theorem YN (l:Bs):eO l≤l.length:=List.length_filter_le _ _
theorem ML (l:Bs) (w:World) (x:l.length≤1000000000000) :
  Calls prog 101 #[aB l,aB [58]] w fun q w'=>q=.returned (.int .i64 (eO l))∧w'=w:=by
 have s:(l.length:Int)≤1000000000000:=by omega
 go_enter func101,ntmps101
 go_wp2;go_loopg [5,6] (l.length+1) (fun k v u wr=>∃ n i:Nat,v=.int .i64 n∧u=.int .i64 i∧i+k=l.length+1∧n+eO (l.drop i)=eO l∧wr=w)
 case atStart=>exact ⟨0,0,rfl,rfl,by omega,by simp,rfl⟩
 case round=>
  obtain ⟨n,i,rfl,rfl,o,d,rfl⟩:=hrel;have a:=Lib.hid d;have e:=Lib.hid o;have y:(0:Int)≤(i:Int):=by omega
  have z:(i:Int)≤1000000000001:=by omega
  have A:(n:Int)≤1000000000000:=by have:=YN l;omega
  have B:(0:Int)≤(n:Int):=by omega
  clear d o;have j:((i:Int)+1≤(l.length:Int))∨¬ ((i:Int)+1≤(l.length:Int)):=by omega
  rcases j with j|j
  ·have m:=Lib.hid (QE l i (by omega));have b:((⟨l.toArray⟩:ByteArray).extract i (i+1)=⟨[(58:UInt8)].toArray⟩)∨¬ ((⟨l.toArray⟩:ByteArray).extract i (i+1)=⟨[(58:UInt8)].toArray⟩):=Classical.em _;rcases b with b|b
   ·have c:=(mY l [58] i).1 b;have f:=Lib.hid (show n+1+eO (l.drop (i+1))=eO l by
     have r:=a.out;have g:=m.out;rw [aV c] at g;omega)
    clear c;go_wp2;go_roundg (gk-1)
    case measure=>have:=e.out;omega
    case rel=>exact ⟨n+1,i+1,by simp,by simp,by have:=e.out;omega,f.out,rfl⟩
   ·have c:[(58:UInt8)].isPrefixOf (l.drop i)=false:=by
     rw [←Bool.not_eq_true];exact fun h=>b ((mY l [58] i).2 h)
    have f:=Lib.hid (show n+eO (l.drop (i+1))=eO l by
     have r:=a.out;have g:=m.out;rw [aN (by rw [c];simp)] at g;omega)
    have t:(((⟨l.toArray⟩:ByteArray).extract i (i+1)).toList==[(58:UInt8)])=false:=by
     rw [lV];intro h;apply b
     apply ByteArray.ext
     apply Array.toList_inj.1
     rw [ByteArray.toList_eq] at h;exact h.trans (by simp)
    clear c b;go_wp2;go_roundg (gk-1)
    case measure=>have:=e.out;omega
    case rel=>exact ⟨n,i+1,rfl,by simp,by have:=e.out;omega,f.out,rfl⟩
  ·have p:=Lib.hid (show eO l=n by
    have:=a.out;rw [UG l i (by omega)] at this;omega)
   go_wp2;go_ret
   exact ⟨by rw [p.out];rfl,rfl⟩
abbrev xB (n:Bs×Bs):Value:=.agg #[aB n.1,aB n.2]
def YO (x:Cx) (c:DC) (w':World) (v':DV) (a:Ending):Except EK ((Bs×Bs)×Bs)→Prop
 | .error k=>∃ nm,a=.returned (.tuple #[xB nm,.bool false])∧P9 x c w' v' k
 | .ok (nm,r)=>a=.returned (.tuple #[xB nm,.bool true])∧∃ b,b≠[]∧cK x c w' v' r none b
theorem BX:∀ s:Bs,lM [58] s=(match s.dropWhile (· != 58) with|[]=>none|_::_=>some (s.takeWhile (· != 58)).length)
 | []=>by simp [lM]
 | b::r=>by
  unfold lM;by_cases h:b=58
  ·subst h;simp [List.isPrefixOf]
  ·have a:¬ (58:UInt8)=b:=fun e=>h e.symm;rw [aN (by simp [List.isPrefixOf,a]),BX r];simp only [List.dropWhile_cons,List.takeWhile_cons,bne_iff_ne,ne_eq,h,not_false_eq_true,if_true];cases r.dropWhile (· != 58)<;>simp
theorem cK.s1lt {x:Cx} {c:DC} {w:World} {v:DV} {rest:Bs} {e:Option EK} {b:Bs} (h:cK x c w v rest e b) (k:Nat) (a:x.S1 v k):k<w.heap.size:=by
 rcases a with a|a
 ·exact h.s0lt k a
 ·rcases h.bf with ⟨d,_⟩|⟨g,cap,arr,d,f,_⟩
  ·rw [d] at a;exact a.elim
  ·rw [d] at a;have:k=g:=a;subst this;exact f.lt
theorem cK.mod {x:Cx} {c:DC} {w w':World} {v:DV} {rest:Bs} {e:Option EK} {a:Bs} {S:Nat→Prop} (h:cK x c w v rest e a) (d:aM S w w') (b:∀ k,x.S1 v k→¬ S k) (g:∀ k,S k→x.B≤k):cK x c w' v rest e a:=by
 obtain ⟨l,f,j⟩:=h.inp;exact ⟨aM.below h.base h.base.size d g,aJ.mod h.dec d (b _ (aH (aH rfl))),⟨l,f.mod d (b _ (aH (aW (aH rfl)))) (b _ (aH (aW (aW (aH rfl))))) (b _ (aH (aW (aW (aW rfl))))),j⟩,h.pos,h.err,h.fin,h.bf.mod d (fun k i=>b _ (aW i))⟩
theorem dB.new {x:Cx} {w w1 b:World} {v a:DV} {q:Nat} (h:dB x w v w1 a) (e:w.heap.size≤q) (c:aM (fun k=>k=q) w1 b):dB x w v b a:=
 ⟨h.mod.trans c (fun i d f=>by omega),h.buf⟩
theorem BY {f:Bool} {rest s r:Bs} (h:eE f rest=.ok (s,r)):s.length≤rest.length:=by
 unfold eE at h;have:=lC rest;split at h
 ·cases h
 ·split at h
  ·cases h
  ·split at h
   ·simp only [bT] at h;rw [h] at this;simp only at this;omega
   ·cases h
theorem QF {f:Bool} {l n r:Bs} (h:eE f l=.ok (n,r)):n≠[]:=by
 unfold eE at h;split at h
 ·cases h
 ·split at h
  ·cases h
  ·rename_i a;split at h
   ·simp only [bT] at h;rw [h] at a;exact a
   ·cases h
theorem zF (x:Cx) (T:x.Fit) (c:DC) (P:iU x c) (w:World) (v:DV) (rest:Bs) (e:Option EK) (M:Bs) (h:cK x c w v rest e M) :
  Calls prog 66 #[.pointer (some ⟨x.d,0,none⟩)] w fun en w'=>∃ v',dB x w v w' v'∧YO x c w' v' en (cH x.o.fails rest):=by
 have HX:=Lib.hid T;have W:=Lib.hid (show rest.length≤1000000000 from fX (h.suf.length_le) T.len);have A:Below w.heap.size w (w.alloc (.cells #[.string ⟨#[]⟩,.string ⟨#[]⟩] 89)):=(Below.refl _ w).alloc (dD _) _;have z:=h.below T.toOk A;have R:=Lib.hid (QB x T c P _ v rest e M z);have V:=aJ.new w #[.string ⟨#[]⟩,.string ⟨#[]⟩] 89;have HQ:=Lib.hid (fun (u:World) (i:DV) (S:dB x (w.alloc (.cells #[.string ⟨#[]⟩,.string ⟨#[]⟩] 89)) v u i)=>V.mod S.mod (fun b=>Nat.lt_irrefl _ (h.s1lt _ b)));have a3:=Lib.hid A;have I:=Lib.hid (fun (u:World) (i:DV) (S:dB x (w.alloc (.cells #[.string ⟨#[]⟩,.string ⟨#[]⟩] 89)) v u i)=>(show dB x w v u i from (dB.refl x w v).s0 (aG A _) rfl |>.trans S));have o:=Lib.hid (fun (i:DV) {u:World} (S:dB x (w.alloc (.cells #[.string ⟨#[]⟩,.string ⟨#[]⟩] 89)) v u i) (k:Nat) (b:x.S1 i k)=>(show ¬ k=w.heap.size from fun e=>by
  subst e;rcases b with b|b
  ·exact Nat.lt_irrefl _ (h.s0lt _ b)
  ·rcases S.buf _ b with b|b
   ·exact Nat.lt_irrefl _ (h.s1lt _ (aW b))
   ·simp at b;omega))
 have H:=Lib.hid h;have aA:=V.cell;have aL:=V.frozen;clear h z V A T P;go_enter func66,ntmps66
 go_wp2_with fail;refine R.out.mono ?_;rintro e2 u ⟨i,F,g⟩;have B:=HQ.out u i F;have d:=Lib.hid F;have aA:=B.cell;have aL:=B.frozen;have X:=Lib.hid B;clear F B R;cases D:eE x.o.fails rest with
 | error k=>
  rw [D] at g;obtain ⟨rfl,g⟩:=g;have HP:=Lib.hid g;have U:=Lib.hid (show cH x.o.fails rest=.error k by unfold cH;rw [D]);clear g D;go_wp2;refine bodyPost_ret (v:=.tuple #[xB ([],[]),.bool false]) (by rw [results_cell_tmp rfl];go_simp) rfl ?_;refine ⟨i,I.out _ _ d.out,?_⟩;rw [U.out];exact ⟨([],[]),rfl,HP.out⟩
 | ok sr=>
  obtain ⟨s,r⟩:=sr;rw [D] at g;obtain ⟨rfl,hr⟩:=g;have Q:s.length≤1000000000000:=by
   have z:=W.out;have N:=lC rest;have h3:=BY D;omega
  have L:=Lib.hid hr;have y:=Lib.hid (QF D);have C:=Lib.hid (ML s u Q);have hcut:=Lib.hid (UF s [58] u Q (by simp) (by simp));have U:=Lib.hid (show cH x.o.fails rest=if 1<eO s then .error .syn else .ok (eP s,r) by unfold cH;rw [D]);clear hr D;have Z:((1:Int)<(eO s:Int))∨¬ ((1:Int)<(eO s:Int)):=by omega
  rcases Z with Z|Z
  ·have l:=Lib.hid (show cH x.o.fails rest=.error .syn by rw [U.out,aV (by omega)]);go_wp2_with fail;refine C.out.mono ?_;rintro Y G ⟨rfl,rfl⟩;go_wp2;refine bodyPost_ret (v:=.tuple #[xB ([],[]),.bool false]) (by rw [results_cell_tmp rfl];go_simp) rfl ?_;have j:=((aM.refl (fun k=>k=w.heap.size) G).setCell (p:=⟨w.heap.size,0,none⟩) (aH rfl) (.string ⟨#[]⟩)).setCell (p:=⟨w.heap.size,1,none⟩) (aH rfl) (.string ⟨#[]⟩);refine ⟨i,(I.out _ _ d.out).new (dD _) j,?_⟩;rw [l.out];exact ⟨([],[]),rfl,aW ⟨rfl,r,s,L.out.mod j (o.out _ d.out) (fun k b=>by rw [b];exact H.out.base.size)⟩⟩
  ·have l:=Lib.hid (show cH x.o.fails rest=.ok (eP s,r) by rw [U.out,aN (by omega)]);have J:=Lib.hid (BX s);go_wp2_with fail;refine C.out.mono ?_;rintro Y G ⟨rfl,rfl⟩;go_wp2_with fail;refine hcut.out.mono ?_;rintro e4 w4 ⟨n,rfl,a0⟩;rcases a0 with ⟨k,b,rfl⟩|⟨b,rfl⟩
   ·have q:(s.take k=[]∨s.drop (k+1)=[]→eP s=([],s))∧(¬ (s.take k=[]∨s.drop (k+1)=[])→eP s=(s.take k,s.drop (k+1))):=by
     have:=J.out;rw [b] at this;unfold eP;cases O:s.dropWhile (· != 58) with
     | nil=>rw [O] at this;cases this
     | cons a t=>
      rw [O] at this;simp only [kD] at this;have e1:s=s.takeWhile (· != 58)++a::t:=by rw [←O];simp
      have e2:s.takeWhile (· != 58)=s.take k:=by
       conv=>rhs;rw [e1]
       rw [this];simp
      have Y:t=s.drop (k+1):=by
       conv=>rhs;rw [e1]
       rw [this];simp
      simp only;rw [e2,Y];constructor
      ·intro h;rw [aV h]
      ·intro h;rw [aN h]
    have m:=Lib.hid q;clear b q;have aC:((s.take k==[])=true)∨((s.take k==[])=false∧(s.drop (k+1)==[])=true)∨((s.take k==[])=false∧(s.drop (k+1)==[])=false):=by
     cases (s.take k==[])<;>cases (s.drop (k+1)==[])<;>simp
    rcases aC with z|⟨z,N⟩|⟨z,N⟩
    ·have f:=Lib.hid (m.out.1 (aH (by simpa using z)));go_wp2;refine bodyPost_ret (v:=.tuple #[xB ([],s),.bool true]) (by rw [results_cell_tmp rfl];go_simp) rfl ?_;have j:=((((aM.refl (fun k=>k=w.heap.size) G).drewN n).setCell (p:=⟨w.heap.size,1,none⟩) (aH rfl) (aB s)).setCell (p:=⟨w.heap.size,0,none⟩) (aH rfl) (.string ⟨#[]⟩)).setCell (p:=⟨w.heap.size,1,none⟩) (aH rfl) (aB s);refine ⟨i,(I.out _ _ d.out).new (dD _) j,?_⟩;rw [l.out,f.out];exact ⟨rfl,s,y.out,L.out.mod j (o.out _ d.out) (fun k b=>by rw [b];exact H.out.base.size)⟩
    ·have f:=Lib.hid (m.out.1 (aW (by simpa using N)));go_wp2;refine bodyPost_ret (v:=.tuple #[xB ([],s),.bool true]) (by rw [results_cell_tmp rfl];go_simp) rfl ?_;have j:=((((aM.refl (fun k=>k=w.heap.size) G).drewN n).setCell (p:=⟨w.heap.size,1,none⟩) (aH rfl) (aB s)).setCell (p:=⟨w.heap.size,0,none⟩) (aH rfl) (.string ⟨#[]⟩)).setCell (p:=⟨w.heap.size,1,none⟩) (aH rfl) (aB s);refine ⟨i,(I.out _ _ d.out).new (dD _) j,?_⟩;rw [l.out,f.out];exact ⟨rfl,s,y.out,L.out.mod j (o.out _ d.out) (fun k b=>by rw [b];exact H.out.base.size)⟩
    ·have f:=Lib.hid (m.out.2 (by simp at z N ⊢;exact ⟨z,N⟩));go_wp2;have E:=(((((show aJ (G.drewN n) w.heap.size _ _ from X.out).set 0 (aB (s.take k))).set 1 (aB (s.drop (k+1)))).set 0 (aB (s.take k))).set 1 (aB (s.drop (k+1)))).cell;have a1:=E 0;have a2:=E 1;clear E;refine bodyPost_ret (v:=.tuple #[xB (s.take k,s.drop (k+1)),.bool true]) (by rw [results_cell_tmp rfl];go_simp) rfl ?_;have j:=(((((aM.refl (fun k=>k=w.heap.size) G).drewN n).setCell (p:=⟨w.heap.size,0,none⟩) (aH rfl) (aB (s.take k))).setCell (p:=⟨w.heap.size,1,none⟩) (aH rfl) (aB (s.drop (k+1)))).setCell (p:=⟨w.heap.size,0,none⟩) (aH rfl) (aB (s.take k))).setCell (p:=⟨w.heap.size,1,none⟩) (aH rfl) (aB (s.drop (k+1)));refine ⟨i,(I.out _ _ d.out).new (dD _) j,?_⟩;rw [l.out,f.out];exact ⟨rfl,s,y.out,L.out.mod j (o.out _ d.out) (fun k b=>by rw [b];exact H.out.base.size)⟩
   ·have q:eP s=([],s):=by
     have:=J.out;rw [b] at this;unfold eP;cases O:s.dropWhile (· != 58) with
     | nil=>rfl
     | cons a t=>rw [O] at this;cases this
    have m:=Lib.hid q;clear b q;go_wp2;refine bodyPost_ret (v:=.tuple #[xB ([],s),.bool true]) (by rw [results_cell_tmp rfl];go_simp) rfl ?_;have j:=((((aM.refl (fun k=>k=w.heap.size) G).drewN n).setCell (p:=⟨w.heap.size,1,none⟩) (aH rfl) (aB s)).setCell (p:=⟨w.heap.size,0,none⟩) (aH rfl) (.string ⟨#[]⟩)).setCell (p:=⟨w.heap.size,1,none⟩) (aH rfl) (aB s);refine ⟨i,(I.out _ _ d.out).new (dD _) j,?_⟩;rw [l.out,m.out];exact ⟨rfl,s,y.out,L.out.mod j (o.out _ d.out) (fun k b=>by rw [b];exact H.out.base.size)⟩
end Go.Proofs.YthapcchcahnfaaaGreatDoor
