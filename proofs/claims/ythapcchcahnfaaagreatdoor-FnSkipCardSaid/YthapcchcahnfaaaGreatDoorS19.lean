/- Part of the proof that laws.FnSkip returns true for every argument. No conditions. -/
import Derived.Test.YthapcchcahnfaaaGreatDoorS18
import Derived.Test.YthapcchcahnfaaaGreatDoorS12
import Derived.Shelf.Pu.Clone
import Derived.Laws.Runes
import Derived.Test.YthapcchcahnfaaaGreatDoorS14
import Derived.Laws.Cover4
set_option linter.all false
set_option maxHeartbeats 8000000
set_option maxRecDepth 100000
namespace Go.Proofs.YthapcchcahnfaaaGreatDoor
open Go Go.RowKit Go.Proofs.Tryz
theorem gV {p:Prop} (H:p:=by first|kernel_rfl|(intro w;kernel_rfl)|(intro w;rfl)|decide):p:=H
def VM:Go.Shelf.Ren:=⟨fun|25=>137|n=>n,
 fun|0=>0|3=>3|4=>4|5=>5|9=>9|37=>81|47=>266|n=>n,
 fun|n=>n⟩
theorem RN:Go.Proofs.LaysPu.n25 prog VM:={
 mixed:=gV,
 f25:=gV,
 t0:=gV,a0:=gV,z0:=gV,v0:=gV,i0:=gV,
 t3:=gV,a3:=gV,z3:=gV,v3:=gV,i3:=gV,
 t4:=gV,a4:=gV,z4:=gV,v4:=gV,i4:=gV,
 t5:=gV,a5:=gV,z5:=gV,v5:=gV,i5:=gV,
 t9:=gV,a9:=gV,z9:=gV,v9:=gV,i9:=gV,
 t37:=gV,a37:=gV,z37:=gV,v37:=gV,i37:=gV,
 t47:=gV,a47:=gV,z47:=gV,v47:=gV,i47:=gV }
theorem IU (s:ByteArray) (w:World) (a:s.size≤281474976710656) :
  Calls prog 137 #[.string s] w fun e w'=>e=.returned (.string s)∧Below w.heap.size w w':=
 AnyPu.stringslite_Clone RN s w a
abbrev m9 (a:Addr):Value:=.iface 196 (.pointer (some a))
def nI (w:World):Prop:=(∃ a,w.cell? ⟨8,0,none⟩=some (m9 a))∧∃ a,w.cell? ⟨9,0,none⟩=some (m9 a)
theorem nI.below {w w':World} {B:Nat} (h:nI w) (b:8<B) (c:9<B) (a:Below B w w'):nI w':=by
 obtain ⟨⟨u,d⟩,⟨v,e⟩⟩:=h;exact ⟨⟨u,by rw [a.cell (p:=⟨_,0,none⟩) b];exact d⟩,⟨v,by rw [a.cell (p:=⟨_,0,none⟩) c];exact e⟩⟩
def NX (w:World) (e:Ending) (w':World):Prop:=(∃ a,e=.returned (.pointer (some a)))∧Below w.heap.size w w'
theorem VN (fn s:ByteArray) (w:World) (h:s.size≤1000000000) (a:Addr) (g:w.cell? ⟨8,0,none⟩=some (m9 a)) (f:8<w.heap.size) :
  Calls prog 129 #[.string fn,.string s] w (NX w):=by
 have c:=Lh (fun w=>IU s w (by omega));have d:=Lh g;go_enter func129,ntmps129
 go_wp2
 go_region_held3 (fun w'=>w'.cell? ⟨8,0,none⟩=some (m9 a))
  (first|go_keep|(show w1.cell? ⟨8,0,none⟩=some (m9 a);rw [b.cell (p:=⟨_,0,none⟩) f];exact d.o))
  (first|(go_at_call 137;refine (c.o _).mono ?_;rintro e w1 ⟨rfl,b⟩))
 go_wp2;go_ret
 exact ⟨⟨_,rfl⟩,(show Below w.heap.size w w1 from ⟨b.os,b.tape,b.output,b.size,b.block⟩).alloc b.size _⟩
theorem VO (fn s:ByteArray) (w:World) (h:s.size≤1000000000) (a:Addr) (g:w.cell? ⟨9,0,none⟩=some (m9 a)) (f:9<w.heap.size) :
  Calls prog 130 #[.string fn,.string s] w (NX w):=by
 have c:=Lh (fun w=>IU s w (by omega));have d:=Lh g;go_enter func130,ntmps130
 go_wp2
 go_region_held3 (fun w'=>w'.cell? ⟨9,0,none⟩=some (m9 a))
  (first|go_keep|(show w1.cell? ⟨9,0,none⟩=some (m9 a);rw [b.cell (p:=⟨_,0,none⟩) f];exact d.o))
  (first|(go_at_call 137;refine (c.o _).mono ?_;rintro e w1 ⟨rfl,b⟩))
 go_wp2;go_ret
 exact ⟨⟨_,rfl⟩,(show Below w.heap.size w w1 from ⟨b.os,b.tape,b.output,b.size,b.block⟩).alloc b.size _⟩
theorem RO (w:World):(binOp .eql 59 (.iface 237 (.int .i64 2)) (.iface 237 (.int .i64 2))).run prog w=.ok (.bool true) w:=by kernel_rfl
theorem RP (w:World):(binOp .eql 59 (.iface 237 (.int .i64 1)) (.iface 237 (.int .i64 2))).run prog w=.ok (.bool false) w:=by kernel_rfl
theorem RQ (w:World):(binOp .eql 59 (.iface 237 (.int .i64 1)) (.iface 237 (.int .i64 1))).run prog w=.ok (.bool true) w:=by kernel_rfl
def X5 (w:World) (e:Ending) (w':World):Prop:=(∃ t v,e=.returned (.iface t v))∧Below w.heap.size w w'
theorem KP (k:Int) (n:k=1∨k=2) (fn s:ByteArray) (b:Int) (w:World) (h:s.size≤1000000000) (o:nI w) (f:8<w.heap.size) (g:9<w.heap.size) :
  Calls prog 115 #[.string fn,.string s,.int .i64 b,.int .i64 64,.iface 237 (.int .i64 k)] w (X5 w):=by
 obtain ⟨⟨u,i⟩,⟨v,j⟩⟩:=o;have l:=Lh (VN fn s w h u i f);have m:=Lh (VO fn s w h v j g);clear i j f g;have r:=RO;have q:=RP;have p:=RQ;rcases n with rfl|rfl
 ·go_enter func115,ntmps115
  go_wp2_with fail;refine m.o.mono ?_;rintro e w1 ⟨⟨a,rfl⟩,c⟩;have d:=Lh c;clear c;go_wp2;go_ret
  exact ⟨⟨_,_,rfl⟩,d.o⟩
 ·go_enter func115,ntmps115
  go_wp2_with fail;refine l.o.mono ?_;rintro e w1 ⟨⟨a,rfl⟩,c⟩;have d:=Lh c;clear c;go_wp2;go_ret
  exact ⟨⟨_,_,rfl⟩,d.o⟩
def IV (a:Bool) (b:Bs) (c:Ending):Prop:=
 if b=[]∨18446744073709551616≤fY a b then ∃ n t u,c=.returned (.tuple #[.int .u64 n,.iface t u]) else c=.returned (.tuple #[.int .u64 (fY a b),.nilIface])
theorem DF (c:Bool) (f:Bs) (x:∀ b∈f,eU c b=true) (B:f.length≤1000000000) (w:World) (y:nI w) (r:8<w.heap.size) (s:9<w.heap.size) :
  Calls prog 94 #[NU f,.int .i64 (if c then 16 else 10),.int .i64 64] w fun A w'=>IV c f A∧Below w.heap.size w w':=by
 have h:=Lh (BU c f x B w);have z:=Lh (fun (k:Int) (o:k=1∨k=2) (fn:ByteArray) (a:Int) (w':World) (v:Below w.heap.size w w')=>KP k o fn ⟨f.toArray⟩ a w' (by show f.length≤_;omega) (y.below r s v) (pL r v.size) (pL s v.size));clear y r s x;obtain ⟨a,d⟩:∃ a:Int,a=if c then 16 else 10:=⟨_,rfl⟩
 rw [←d] at h ⊢;clear d;go_enter func94,ntmps94
 go_wp2_with fail;refine h.o.mono ?_;rintro e w1 ⟨i,j⟩;unfold oZ at i;by_cases g:f=[]∨18446744073709551616≤fY c f
 ·rw [aY g] at i;obtain ⟨n,k,rfl,o⟩:=i;have ⟨p,m⟩:=cB g j;have C:=Lh (fun (fn:ByteArray) (a:Int)=>z.o k o fn a w1 j);clear g j o;go_wp2_with fail;refine (C.o _ _).mono ?_;rintro D E ⟨⟨t,u,rfl⟩,l⟩;have q:=Lh l;clear l;go_wp2;go_ret2
  refine ⟨?_,m.o.trans (q.o.mono m.o.size)⟩;unfold IV;rw [aY p.o];exact ⟨_,_,_,rfl⟩
 ·rw [aQ g] at i;subst i;have ⟨p,m⟩:=cB g j;clear g j;go_wp2;go_ret2
  refine ⟨?_,m.o⟩;unfold IV;rw [aQ p.o];rfl
def nA (s:Bs):Nat:=if s=[108,116] then 60 else if s=[103,116] then 62 else if s=[97,109,112] then 38
 else if s=[97,112,111,115] then 39 else if s=[113,117,111,116] then 34 else 0
theorem DG (s:Bs):rV s=if nA s=0 then none else some [UInt8.ofNat (nA s)]:=by
 unfold rV nA;repeat' split
 all_goals first|rfl|simp_all
theorem xN {s p:Bs} (h:¬ s=p):(s==p)=false:=by simpa using h
theorem NY (s:Bs) (w:World):Calls prog 97 #[aB s] w fun g w'=>g=.returned (.tuple #[.int .i32 (nA s),.bool (decide (nA s≠0))])∧w'=w:=by
 by_cases a:s=[108,116]
 ·subst a;go_enter func97,ntmps97
  go_wp2;go_ret2
  exact ⟨rfl,rfl⟩
 by_cases b:s=[103,116]
 ·subst b;go_enter func97,ntmps97
  go_wp2;go_ret2
  exact ⟨rfl,rfl⟩
 by_cases c:s=[97,109,112]
 ·subst c;go_enter func97,ntmps97
  go_wp2;go_ret2
  exact ⟨rfl,rfl⟩
 by_cases d:s=[97,112,111,115]
 ·subst d;go_enter func97,ntmps97
  go_wp2;go_ret2
  exact ⟨rfl,rfl⟩
 by_cases e:s=[113,117,111,116]
 ·subst e;go_enter func97,ntmps97
  go_wp2;go_ret2
  exact ⟨rfl,rfl⟩
 have f:=Lh (show nA s=0 by unfold nA;rw [aQ a,aQ b,aQ c,aQ d,aQ e]);have h:=xN a;have i:=xN b;have j:=xN c;have k:=xN d;have l:=xN e;clear a b c d e;go_enter func97,ntmps97
 go_wp2;go_ret2
 exact ⟨by rw [f.o];rfl,rfl⟩
theorem cS.ne {v:DV} (h:cS v):v.bufv≠.slice none 0 0:=by
 obtain ⟨k,a⟩:=h;intro e;rw [e] at a;exact a.elim
theorem cS.of_iff {v v':DV} (h:cS v) (a:∀ k,dU v'.bufv k↔dU v.bufv k):cS v':=by
 obtain ⟨k,b⟩:=h;exact ⟨k,(a k).2 b⟩
theorem cS.of_eq {v v':DV} (h:cS v) (a:v'.bufv=v.bufv):cS v':=by
 obtain ⟨k,b⟩:=h;exact ⟨k,by rw [a];exact b⟩
theorem cA.nonnil {x:Cx} {c:DC} {w:World} {v:DV} {rest:Bs} {e:Option EK} {a:Bs} (h:cA x c w v rest e a) (b:a≠[]):cS v:=by
 obtain ⟨g,d,f,_⟩:=h.bf.bytes b;exact ⟨g,by rw [f];rfl⟩
abbrev vZ (a:Addr):Value:=.iface 113 (.pointer (some a))
structure NZ (x:Cx) (c:DC) (w:World) (v:DV) (w':World) (a:Addr):Prop where
 dec:bR w' x.d c v
 err:iQ x c (w'.setCell ⟨x.d,20,none⟩ (vZ a)) { v with err:=vZ a } .syn
 stp:cN x w v (w'.setCell ⟨x.d,20,none⟩ (vZ a)) { v with err:=vZ a }
theorem oI {x:Cx} (j:x.Ok) {c:DC} {w:World} {v:DV} {rest:Bs} {e:Option EK} {b:Bs} (h:cA x c w v rest e b) (a:ByteArray) :
  Calls prog 36 #[.pointer (some ⟨x.d,0,none⟩),.string a] w fun f w'=>f=.returned (vZ ⟨w.heap.size,0,none⟩)∧NZ x c w v w' ⟨w.heap.size,0,none⟩:=
 (BI x.d c v w h.dec a).mono fun f w' ⟨g,i⟩=>by
  have d:Below w.heap.size w w':=by rw [i];exact (Below.refl _ w).alloc (dF _) _
  exact ⟨g,aL.mod (S:=fun _=>False) h.dec (aH d _) id,h.syn j d _,(cN.refl x w v).syn d _⟩
theorem cA.drewN {x:Cx} {c:DC} {w:World} {v:DV} {rest:Bs} {e:Option EK} {a:Bs} (h:cA x c w v rest e a) (b:x.Ok) (k:Nat):cA x c (w.drewN k) v rest e a:=
 h.below b ⟨rfl,rfl,rfl,dF _,fun _ _=>rfl⟩
theorem cN.drewN {x:Cx} {w:World} {v:DV} (k:Nat):cN x w v (w.drewN k) v:=⟨aH (show Below w.heap.size w (w.drewN k) from ⟨rfl,rfl,rfl,dF _,fun _ _=>rfl⟩) _,fun _ h=>aG h⟩
structure Cx.All (x:Cx):Prop extends Cx.Fit x where
 num:nI x.W0
 numS:8<x.B
 numR:9<x.B
theorem Cx.All.nums {x:Cx} (a:x.All) {w:World} (h:Below x.B x.W0 w):nI w∧8<w.heap.size∧9<w.heap.size:=
 ⟨a.num.below a.numS a.numR h,pL a.numS h.size,pL a.numR h.size⟩
noncomputable def fC (n:Nat):Code:=((Tryz.f64.body).bind (Code.partAt n)).getD .skip
abbrev bT (x:Cx):Value:=.pointer (some ⟨x.d,0,none⟩)
structure N0 (x:Cx) (c:DC) (w:World) (v:DV) (h g:Value) (Q:Exit→Act→World→Prop) (d:Bs→Bs→Prop) (e:Prop):Prop where
 on:∀ f w' v' a b,cA x c w' v' a none b→cN x w v w' v'→cS v'→d a b→Q (.exit 1) (fr 381 f [(0,bT x),(1,h),(2,g),(7,.int .u8 0),(8,.int .u8 0),(9,.int .i64 0)]) w'
 bad:e→∀ f w' v',iQ x c w' v' .syn→cN x w v w' v'→Q .ret (fr 381 f [(6,.slice none 0 0)]) w'
theorem zF (x:Cx) (C:x.Fit) (c:DC) (w:World) (v:DV) (rest a y t:Bs) (h:cA x c w v rest none (a++y)) (g:cS v) (I:a.length≤50000000000000) (J:t.length≤1000000000000) (D z:Value) (Q:Exit→Act→World→Prop)
  (B:N0 x c w v D z Q (fun r b=>r=rest∧b=a++t) False) (f:Nat→Value) :
  (fC 75).wp prog Q (fr 381 f [(0,bT x),(1,D),(2,z),(9,.int .i64 0),(12,.int .i64 a.length),(14,aB t),(15,.bool true)]) w:=by
 have l:=Lh (xB x C.toOk c w v rest none _ h a.length (by simp));have ⟨G,H⟩:=cB B C;clear B h;unfold fC;conv=>arg 2;whnf
 refine vg ?_;intro K hK K hK K hK;refine l.o.mono ?_;rintro N w1 ⟨rfl,L,p,q,d,j,u⟩;rw [List.take_left] at p;have m:=Lh (y8 x H.o.toOk c w1 L rest none _ p (g.of_iff d).ne ⟨t.toArray⟩ J I);have n:=Lh (cN.ofS0 j d);have F:=Lh (g.of_iff d);clear p q d j u l g;(repeat revert K);refine vS ?_;intro K hK K hK K hK;refine m.o.mono ?_;rintro O P ⟨rfl,M,⟨A,s,k⟩,e⟩;have E:=Lh A;have o:=Lh (n.o.trans k);have i:=Lh e;clear A k m s e;(repeat revert K);refine vS ?_;intro K hK;refine Qk [0,1,2,7,8,9] fun f=>?_;exact G.o.on f _ M _ _ E.o o.o i.o ⟨rfl,rfl⟩
theorem xO (x:Cx) (c:DC) (l:c.strict=false) (w:World) (v:DV) (rest a:Bs) (h:cA x c w v rest none a) (d:cS v) (j g m:Value) (Q:Exit→Act→World→Prop)
  (i:N0 x c w v j g Q (fun r b=>r=rest∧b=a) False) (n:Int) (f:Nat→Value) :
  (fC 75).wp prog Q (fr 381 f [(0,bT x),(1,j),(2,g),(9,.int .i64 0),(12,.int .i64 n),(14,m),(15,.bool false)]) w:=by
 have o:=h.dec.cell;have p:=h.dec.frozen;have ⟨H,k,e⟩:=kV h i d;clear i h d;unfold fC;conv=>arg 2;whnf
 refine vg ?_;intro K hK;refine Qk [0,1,2,7,8,9] fun f=>?_;exact k.o.on f _ v _ _ H.o (cN.refl x w v) e.o ⟨rfl,rfl⟩
theorem uG (l:Bs) (w:World) (b a c:Nat) (h:bJ w b a l):(convert 81 9 (.slice (some ⟨b,a,none⟩) l.length c)).run prog w=.ok (aB l) w:=mP l w b a c h
theorem BX (x:Cx) (J:x.Fit) (c:DC) (aC:c.strict=true) (w:World) (v:DV) (rest b a:Bs) (h:cA x c w v rest none (b++a)) (X:1≤a.length) (y:(b++a).length≤50000000000000) (L D tv:Value) (Q:Exit→Act→World→Prop) (p:Bs→Bs→Prop)
  (G:N0 x c w v L D Q p True) (f:Nat→Value) :
  (fC 75).wp prog Q (fr 381 f [(0,bT x),(1,L),(2,D),(9,.int .i64 0),(12,.int .i64 b.length),(14,tv),(15,.bool false)]) w:=by
 obtain ⟨g,n,B,r,o,P,_,_,_⟩:=h.bf.bytes (by intro e;have E:=congrArg List.length e;rw [fP] at E;simp only [List.length_nil] at E;omega);have i:=Lh (l8 x c w v rest none _ h);have hc:=h.dec.cell;have hf:=h.dec.frozen;have d:=r.drop b.length;rw [Nat.zero_add,List.drop_left] at d;have l:(b++a).length=b.length+a.length:=fP;rw [l] at B o y;have ⟨H,M,C⟩:=kV h G J;have s:=fun k=>uG a (w.drewN k) g b.length (n-b.length) (fun j T=>d j T);rw [B] at i;clear G h J r d l B;obtain ⟨A,F⟩:=cK b.length;obtain ⟨R,u⟩:=cK a.length;rw [←F] at i s o y ⊢;rw [←u] at i s o y X;have a0:(0:Int)≤(A:Int):=by omega
 have a1:(A:Int)≤(A:Int)+(R:Int):=by omega
 have a2:(A:Int)+(R:Int)≤(n:Int):=by omega
 have O:¬ n=A:=by omega
 have U:IntKind.i64.wrap ((a.length:Int)-1)=(a.length:Int)-1:=by rw [IntKind.wrap_i64];omega
 have V:(0:Int)≤(a.length:Int)-1:=by omega
 have I:(1:Int)≤(a.length:Int):=by omega
 have W:(a.length:Int)-1<(a.length:Int):=by omega
 have Y:¬ 9223372036854775807<a.length+15:=by omega
 have Z:¬ 9223372036854775807<25+a.length:=by omega
 have aA:¬ 9223372036854775807<25+(a.length+15):=by omega
 have HR:=Lh u;have z:=Lh (fun (m:ByteArray) (k:Nat)=>oI C.o.toOk (H.o.drewN C.o.toOk k) m);clear F u;unfold fC;conv=>arg 2;whnf
 refine vg ?_;intro K hK K hK;refine i.o.mono ?_;rintro e1 w1 ⟨rfl,k,rfl⟩;(repeat revert K);refine vS ?_;intro K hK;refine wp_cond_split (by rw [bU (by decide)];simp only [aR,aW,Nat.reduceEqDiff,↓reduceIte];rfl) (fun _=>?_) (fun _=>?_)
 all_goals
  revert K;refine vg ?_;intro K hK K hK;refine (z.o _ k).mono ?_;rintro e2 w2 ⟨rfl,t⟩;have N:=t.dec.cell;have S:=t.dec.frozen;have q:=Lh t;clear t;(repeat revert K);refine vS ?_;refine Qk [6] fun f=>?_;exact M.o.bad trivial f _ _ q.o.err ((cN.drewN k).trans q.o.stp)
def Code.regionAt (e:Nat):Code→Option Code
 | .seq a b=>match Code.regionAt e a with
  | some c=>some c
  | none=>Code.regionAt e b
 | .region i o d=>if i==e then some (.region i o d) else none
 | .cond _ a b=>match Code.regionAt e a with
  | some c=>some c
  | none=>Code.regionAt e b
 | .block _ c=>Code.regionAt e c
 | .loop c=>Code.regionAt e c
 | .scope c=>Code.regionAt e c
 | _=>none
noncomputable def AF (n:Nat):Code:=((Tryz.f64.body).bind (Code.regionAt n)).getD .skip
theorem KQ (e:Bool) (b:UInt8):eU e b=true↔(48≤b.toNat∧b.toNat≤57)∨(e=true∧97≤b.toNat∧b.toNat≤102)∨(e=true∧65≤b.toNat∧b.toNat≤70):=by
 constructor
 ·intro h;rcases u9 h with ⟨a,c,_⟩|⟨d,a,c,_⟩|⟨d,a,c,_⟩
  ·exact aG ⟨a,c⟩
  ·exact aU (aG ⟨d,a,c⟩)
  ·exact aU (aU ⟨d,a,c⟩)
 ·have f:(48:UInt8).toNat=48:=rfl;have g:(57:UInt8).toNat=57:=rfl;have i:(97:UInt8).toNat=97:=rfl;have j:(102:UInt8).toNat=102:=rfl;have k:(65:UInt8).toNat=65:=rfl;have l:(70:UInt8).toNat=70:=rfl;simp only [eU,Bool.or_eq_true,FI,IC,UInt8.le_iff_toNat_le,f,g,i,j,k,l];rintro (⟨a,c⟩|⟨d,a,c⟩|⟨d,a,c⟩)
  ·exact aG (aG ⟨a,c⟩)
  ·exact aG (aU ⟨⟨d,a⟩,c⟩)
  ·exact aU ⟨⟨d,a⟩,c⟩
theorem RR (a:Bool) (b:UInt8) (v0 p q r d e g i:Value) (Q:Exit→Act→World→Prop) (w:World) (f:Nat→Value)
  (m:∀ f,Q .normal (fr 381 f [(0,v0),(1,p),(2,q),(9,r),(10,.int .u8 b.toNat),(12,d),(14,e),(15,g),(16,.int .i64 (if a then 16 else 10)),(17,i),(178,.bool (eU a b))]) w) :
  (AF 43).wp prog Q (fr 381 f [(0,v0),(1,p),(2,q),(9,r),(10,.int .u8 b.toNat),(12,d),(14,e),(15,g),(16,.int .i64 (if a then 16 else 10)),(17,i)]) w:=by
 have k:=Lh (KQ a b);have l:=Lh m;obtain ⟨n,o⟩:=cK b.toNat;rw [←o] at k l ⊢;clear o m;unfold AF;conv=>arg 2;whnf
 have c:n<48∨(48≤n∧n≤57)∨(58≤n∧n≤64)∨(65≤n∧n≤70)∨(71≤n∧n≤96)∨(97≤n∧n≤102)∨103≤n:=by omega
 rcases c with h|h|h|h|h|h|h
 all_goals
  have s:=Lh h;first|have:(48:Int)≤(n:Int):=by omega|have:¬ ((48:Int)≤(n:Int)):=by omega
  first|have:(n:Int)≤57:=by omega|have:¬ ((n:Int)≤57):=by omega
  first|have:(97:Int)≤(n:Int):=by omega|have:¬ ((97:Int)≤(n:Int)):=by omega
  first|have:(n:Int)≤102:=by omega|have:¬ ((n:Int)≤102):=by omega
  first|have:(65:Int)≤(n:Int):=by omega|have:¬ ((65:Int)≤(n:Int)):=by omega
  first|have:(n:Int)≤70:=by omega|have:¬ ((n:Int)≤70):=by omega
  clear h;cases a
  all_goals
   (try simp only [rW,↓reduceIte])
   refine vg ?_;refine Qk [0,1,2,9,10,12,14,15,16,17,178] fun f=>?_;have u:=s.o;have j:=l.o f
   first
    | (rw [show eU _ b=true from k.o.2 (by simp;omega)] at j;exact j)
    | (rw [show eU _ b=false from by
      rw [←Bool.not_eq_true];intro t;have:=k.o.1 t;simp at this;omega] at j;exact j)
structure xP (x:Cx) (c:DC) (w:World) (v:DV) (e d:Value) (a:Bs) (Q:Exit→Act→World→Prop) (b:Except EK (Bs×Option Bs×Bs)):Prop where
 ok:∀ raw t r,b=.ok (raw,t,r)→∀ f w' v',cA x c w' v' r none (a++raw)→cN x w v w' v'→cS v'→Q .normal (fr 381 f [(0,bT x),(1,e),(2,d),(9,.int .i64 0),(12,.int .i64 a.length),(14,aB (t.getD [])),(15,.bool t.isSome)]) w'
 bad:∀ k,b=.error k→∀ f w' v',iQ x c w' v' k→cN x w v w' v'→Q .ret (fr 381 f [(6,.slice none 0 0)]) w'
theorem KR (y:ByteArray):aB y.data.toList=.string y:=by cases y;simp
theorem X6 (n:Nat):aB (gD n)=.string (Utf8.encode n):=by rw [gD,KR]
theorem N1 (n:Int) (w:World):(convert 21 9 (.int .i32 n)).run prog w=.ok (.string (Utf8.encode n)) w:=run_convert_int_string w 21 9 .i32 n (by rw [underlying21];rfl) underlying9
def X7 (x:Cx) (c:DC) (w:World) (v:DV) (n m:Value) (e:Bool) (g pre:Bs) (b:UInt8) (r:Bs) (k:Nat) (a:Act) (w':World):Prop:=
 ∃ f l i h j,a=fr 381 f [(0,bT x),(1,n),(2,m),(9,.int .i64 0),(10,.int .u8 i.toNat),(12,.int .i64 g.length),(14,aB []),(15,.bool false),(16,.int .i64 (if e then 16 else 10)),(17,.int .i64 ((g.length:Int)+(pre.length:Int)))] ∧
  cA x c w' l h none (g++pre++j)∧l.nb=-1∧cN x w v w' l∧(i::h) <:+ x.T∧k=h.length∧(bX e (b::r)).1=j++(bX e (i::h)).1∧(bX e (b::r)).2=(bX e (i::h)).2 ∧
  (∀ d∈j,eU e d=true)∧j.length+h.length≤r.length
theorem IW (x:Cx) (hx:x.All) (c:DC) (c1:hY x c) (e:Bool) (pre:Bs) (T:pre≠[]) (e7:pre.length≤3) (w:World) (v:DV) (b:UInt8) (r a:Bs) (h:cA x c w v r none (a++pre)) (hn:v.nb=-1) (V:(b::r) <:+ x.T) (hl:a.length≤20000000000000)
  (qv cv:Value) (Q:Exit→Act→World→Prop) (hQ:xP x c w v qv cv a Q (eM x.o.fails e pre (b::r))) (f:Nat→Value) :
  (fC 42).wp prog Q (fr 381 f [(0,bT x),(1,qv),(2,cv),(9,.int .i64 0),(10,.int .u8 b.toNat),(12,.int .i64 a.length),(14,aB []),(15,.bool false),(16,.int .i64 (if e then 16 else 10))]) w:=by
 have p:=Lh (zW x c w v r none _ h);have ⟨Y,HD,HQ,H,HN,b0⟩:=gT hx c1 hQ h hn V;have e9:r.length≤1000000000:=by have h1:=V.length_le;have h2:=hx.len;simp at h1;omega
 clear hQ h hn V hx c1;unfold fC;conv=>arg 2;whnf
 refine vg ?_;intro K hK K hK;refine p.o.mono ?_;rintro e1 w1 ⟨rfl,k1,rfl⟩;(repeat revert K);refine vS ?_;intro K hK;refine cG [0,1,2,9,10,12,14,15,16,17] fun f=>?_;refine wp_loop_ghost_k (X7 x c w v qv cv e a pre b r) r.length ⟨f,v,b,r,[],rfl,by rw [List.append_nil];exact H.o.drewN Y.o.toOk k1,HN.o,cN.drewN k1,b0.o,rfl,rfl,rfl,by simp,by simp⟩ ?_;rintro k _ w1 ⟨f,v4,B,q,i,rfl,h4,c8,d0,W,hk,aA,aC,c3,c2⟩ J K2 hJ b3;have ⟨HJ,d5,F,A,bA,a9⟩:=gT hJ b3 aA aC c3 c2;have ⟨d6,a3,G,d7,H4⟩:=pM hk d0 W c8 h4;have a4:(a++pre++i).length≤30000000000000:=by
  rw [fP,fP];omega
 clear hJ b3 aA aC c3 hk d0 W c8 h4 c2;refine wp_seq_k (fun K hK=>?_);refine wp_seq_k (fun K0 b2=>?_);refine bB (RR e B _ _ _ _ _ _ _ _ _ w1 f ?_) (by kernel_rfl);intro f;simp only [Exit.then];refine b2 _ _ ?_;clear b2 K0;by_cases y:eU e B=true
 ·rw [y];have d3:=Lh y;have d4:=Lh (show (bX e (B::q)).1=B::(bX e q).1 by simp [bX,y]);have bC:=Lh (show (bX e (B::q)).2=(bX e q).2 by simp [bX,y]);have d2:=Lh (fW x Y.o.toOk c w1 v4 q none _ H4.o B (by omega));clear y;(repeat revert K);refine vg ?_;intro K hK K hK K hK;refine d2.o.mono ?_;rintro e2 w2 ⟨rfl,v5,X,e5,U⟩;have H5:=Lh X;have C:=Lh (a3.o.trans U);clear X U d2 e5;(repeat revert K);refine vS ?_;intro K hK K hK K hK;cases q with
  | nil=>
   have R:=Lh (bN x Y.o.toOk c HD.o w2 v5 none _ H5.o);refine R.o.mono ?_;rintro e3 w3 ⟨rfl,v6,h6,I,P⟩;have s:=Lh (C.o.s0 P I);have H6:=Lh h6;clear h6 I P R;(repeat revert K);refine vS ?_;intro K hK;refine Qk [6] fun f=>?_;refine HQ.o.bad _ ?_ f w3 v6 H6.o s.o;unfold eM;rw [A.o,bC.o];rfl
  | cons b5 r5=>
   have R:=Lh (bK x Y.o.toOk c HD.o w2 v5 b5 r5 none _ H5.o);refine R.o.mono ?_;rintro e3 w3 ⟨rfl,v6,h6,c9,I,P,_⟩;have s:=Lh (C.o.s0 P I);have ⟨H6,d8⟩:=cB h6 c9;clear h6 I P R c9;(repeat revert K);refine vS ?_;intro K hK;refine Kk [0,1,2,9,10,12,14,15,16,17] fun f=>?_;refine d5.o _ _ ⟨r5.length,by have:=d6.o;simp at this;omega,HJ.o _ _ _ ⟨f,v6,b5,r5,i++[B],rfl,?_,d8.o,s.o,?_,rfl,?_,?_,?_,?_⟩⟩
   ·rw [←rG];exact H6.o
   ·exact (pH _ _).trans G.o
   ·rw [F.o,d4.o,rG];rfl
   ·rw [A.o,bC.o]
   ·intro d hd;rcases List.mem_append.1 hd with hd|hd
    ·exact bA.o d hd
    ·rw [List.mem_singleton.1 hd];exact d3.o
   ·have:=a9.o;simp at this ⊢;omega
 ·have M:eU e B=false:=by simpa using y
  rw [M];have HE:=Lh (show bX e (B::q)=([],B::q) by simp [bX,M]);clear y M;by_cases hb:B=59
  ·subst hb;rw [show (UInt8.toNat 59)=59 from rfl];obtain ⟨g,Z,hv,b9,a6,e6,_,_,_⟩:=H4.o.bf.bytes (by simp [T]);have L:=Lh (l8 x c w1 v4 q none _ H4.o);have m:=b9.drop (a++pre).length;rw [Nat.zero_add,List.drop_left] at m;have p:(a++pre++i).length=a.length+pre.length+i.length:=by rw [fP,fP]
   have O:(a++pre).length=a.length+pre.length:=fP;rw [O] at m;rw [p] at hv a6 a4;rw [hv] at L;have a5:∀ k,(convert 81 9 (.slice (if Z=a.length+pre.length then some ⟨g,0,none⟩ else some ⟨g,a.length+pre.length,none⟩) i.length (Z-(a.length+pre.length)))).run prog (w1.drewN k)=.ok (aB i) (w1.drewN k):=by
    intro k;by_cases cT:Z=a.length+pre.length
    ·have e0:i=[]:=List.length_eq_zero_iff.1 (by omega);subst e0;rw [aY cT];exact mP [] (w1.drewN k) g 0 _ (fun j hj=>absurd hj (by simp))
    ·rw [aQ cT];exact mP i (w1.drewN k) g _ _ (fun j hj=>m j hj)
   have z:=Lh (show eM x.o.fails e pre (b::r)=.ok (pre++i++[59],(if i=[]∨0x10FFFF<fY e i then none else some (gD (fY e i))),q) by
    unfold eM;rw [A.o,F.o,HE.o];simp only [List.append_nil,if_true])
   have c4:i.length≤1000000000:=by have:=a9.o;omega
   have b1:=Lh (fun (k:Nat)=>fW x Y.o.toOk c (w1.drewN k) v4 q none _ (H4.o.drewN Y.o.toOk k) 59 (by rw [p];omega));clear b9 m hv p O;obtain ⟨S,hS⟩:=cK (a.length+pre.length);rw [←hS] at L a5 a6 a4;rw [show ((a.length:Int)+(pre.length:Int))=(S:Int) by omega];obtain ⟨D,hD⟩:=cK i.length;rw [←hD] at L a5 a6 a4;have a0:(0:Int)≤(S:Int):=by omega
   have a1:(S:Int)≤(S:Int)+(D:Int):=by omega
   have a2:(S:Int)+(D:Int)≤(Z:Int):=by omega
   clear hS hD;(repeat revert K);refine vg ?_;intro K hK K hK;refine L.o.mono ?_;rintro e2 w2 ⟨rfl,k2,rfl⟩;(repeat revert K);refine vS ?_;intro K hK K hK;refine (b1.o k2).mono ?_;rintro e3 w3 ⟨rfl,v5,X,_,U⟩;obtain ⟨dI,c5,c6⟩:=Y.o.nums X.base;have dT:=Lh (DF e i bA.o c4 w3 dI c5 c6);have H5:=Lh X;have C:=Lh ((a3.o.trans (cN.drewN k2)).trans U);clear X U b1 dI c5 c6 a5 L;(repeat revert K);refine vS ?_;intro K hK K hK;refine dT.o.mono ?_;rintro e4 w4 ⟨hp,a8⟩;have H6:=Lh (H5.o.below Y.o.toOk a8);have s:=Lh (C.o.s0 (aH a8 _) rfl);have E:=Lh (H6.o.nonnil (by simp [T]));clear a8 dT;unfold IV at hp;by_cases hc:i=[]∨18446744073709551616≤fY e i
   ·rw [aY hc] at hp;obtain ⟨n,t,u,rfl⟩:=hp;have o:i=[]∨0x10FFFF<fY e i:=by
     rcases hc with h|h
     ·exact aG h
     ·exact aU (by omega)
    have l:=Lh (z.o.trans (by rw [aY o]));clear hc o;(repeat revert K);refine vS ?_;refine Qk [0,1,2,9,12,14,15] fun f=>?_;exact HQ.o.ok _ none q l.o f _ v5 (by rw [←rG,←rG];exact H6.o) s.o E.o
   ·rw [aQ hc] at hp;subst hp;obtain ⟨N,hN⟩:=cK (fY e i);rw [←hN] at z hc ⊢;have a7:¬ i=[]:=fun h=>hc (aG h);by_cases hr:(N:Int)≤1114111
    ·have o:¬ (i=[]∨0x10FFFF<N):=by rintro (h|h);exact a7 h;omega
     have l:=Lh (z.o.trans (by rw [aQ o]));have f1:IntKind.i32.wrap (N:Int)=(N:Int):=by rw [IntKind.wrap_i32];omega
     have e8:=fun w=>N1 (N:Int) w;clear hc o hN a7;(repeat revert K);refine vS ?_;refine Qk [0,1,2,9,12,14,15] fun f=>?_;have h9:=HQ.o.ok _ _ q l.o f _ v5 (by rw [←rG,←rG];exact H6.o) s.o E.o;rw [Option.getD_some,X6] at h9;exact h9
    ·have o:i=[]∨0x10FFFF<N:=aU (by omega);have l:=Lh (z.o.trans (by rw [aY o]));clear hc o hN a7;(repeat revert K);refine vS ?_;refine Qk [0,1,2,9,12,14,15] fun f=>?_;exact HQ.o.ok _ none q l.o f _ v5 (by rw [←rG,←rG];exact H6.o) s.o E.o
  ·have b7:=eS hb (n:=59) rfl;have d9:((B.toNat:Int) != 59)=true:=by simpa using b7
   have d1:=Lh (gG x Y.o.toOk c w1 v4 B q _ H4.o d7.o G.o);have HB:=Lh hb;clear hb;(repeat revert K);refine vg ?_;intro K hK;refine d1.o.mono ?_;rintro e2 w2 ⟨rfl,v5,X,_,b6,c7,_⟩;have H5:=Lh X;have C:=Lh (a3.o.s0 c7 b6);have E:=Lh (X.nonnil (by simp [T]));clear X c7 b6 d1;revert K;refine vS ?_;refine Qk [0,1,2,9,12,14,15] fun f=>?_;refine HQ.o.ok (pre++i) none (B::q) ?_ f _ v5 (by rw [←rG];exact H5.o) C.o E.o;unfold eM;rw [A.o,F.o,HE.o];simp only [List.append_nil];rw [aQ HB.o]
theorem F5 (p:Option Addr) (a:Nat) (w:World):Calls prog 96 #[.slice p 0 a] w fun e w'=>e=.returned (.bool false)∧w'=w:=by
 go_enter func96,ntmps96
 go_wp2;go_ret
 exact ⟨rfl,rfl⟩
theorem wZ.iface {x:Cx} {v:Value} {k:EK} (h:wZ x v (some k)):∃ t u,v=.iface t u:=by
 cases k with
 | eof=>exact ⟨_,_,h⟩
 | own=>exact ⟨_,_,h⟩
 | syn=>obtain ⟨a,h⟩:=h;exact ⟨_,_,h⟩
 | other=>obtain ⟨a,h,_⟩:=h;exact ⟨_,_,h⟩
theorem RS (x:Cx) (hx:x.All) (c:DC) (M:hY x c) (w:World) (v:DV) (r e:Bs) (h:cA x c w v r none (e++[38])) (q:(35::r) <:+ x.T) (hl:e.length≤20000000000000)
  (W U:Value) (Q:Exit→Act→World→Prop) (ents:Option (Bs→Option Bs)) (hQ:xP x c w v W U e Q (iG x.o.fails ents (35::r))) (f:Nat→Value) :
  (fC 31).wp prog Q (fr 381 f [(0,bT x),(1,W),(2,U),(9,.int .i64 0),(10,.int .u8 35),(12,.int .i64 e.length),(14,aB []),(15,.bool false)]) w:=by
 have S:=Lh (fW x hx.toOk c w v r none _ h 35 (by simp;omega));have ⟨u,C,D,p,HL⟩:=pM hx M hQ q hl;clear hQ h q hx M;unfold fC;conv=>arg 2;whnf
 refine vg ?_;intro K hK K hK;refine S.o.mono ?_;rintro e1 w1 ⟨rfl,v1,h1,_,P⟩;have ⟨H1,G⟩:=cB h1 P;clear h1 P S;(repeat revert K);refine vS ?_;intro K hK K hK K hK;cases r with
 | nil=>
  have a:=Lh (bN x u.o.toOk c C.o w1 v1 none _ H1.o);refine a.o.mono ?_;rintro E Y ⟨rfl,X,I,i,l⟩;have g:=Lh (G.o.s0 l i);have T:=Lh I;clear I i l a;(repeat revert K);refine vS ?_;intro K hK;refine Qk [6] fun f=>?_;exact D.o.bad _ rfl f Y X T.o g.o
 | cons d r2=>
  have a:=Lh (bK x u.o.toOk c C.o w1 v1 d r2 none _ H1.o);refine a.o.mono ?_;rintro E Y ⟨rfl,X,I,N,i,l,_⟩;have g:=Lh (G.o.s0 l i);have ⟨T,aA⟩:=cB I N;clear I i l a N;by_cases V:d=120
  ·subst V;have s:=Lh (fW x u.o.toOk c Y X r2 none _ T.o 120 (by have:=HL.o;simp;omega));(repeat revert K);refine vS ?_;intro K hK K hK K hK;refine s.o.mono ?_;rintro e4 w4 ⟨rfl,v7,h7,_,R⟩;have H7:=Lh h7;have H:=Lh (g.o.trans R);clear h7 R s;(repeat revert K);refine vS ?_;intro K hK K hK K hK;cases r2 with
   | nil=>
    have a:=Lh (bN x u.o.toOk c C.o w4 v7 none _ H7.o);refine a.o.mono ?_;rintro e5 w5 ⟨rfl,v8,J,j,m⟩;have o:=Lh (H.o.s0 m j);have Z:=Lh J;clear J j m a;(repeat revert K);refine vS ?_;intro K hK;refine Qk [6] fun f=>?_;exact D.o.bad _ rfl f w5 v8 Z.o o.o
   | cons E r3=>
    have a:=Lh (bK x u.o.toOk c C.o w4 v7 E r3 none _ H7.o);refine a.o.mono ?_;rintro e5 w5 ⟨rfl,v8,J,O,j,m,_⟩;have o:=Lh (H.o.s0 m j);have ⟨Z,aC⟩:=cB J O;clear J j m a O;have F:=Lh (show iG x.o.fails ents (35::120::E::r3)=eM x.o.fails true [38,35,120] (E::r3) by simp [iG]);go_simp;(repeat revert K);refine vT 42 ?_;refine cG [0,1,2,9,10,12,14,15,16] fun f=>?_;refine bB (IW x u.o c C.o true [38,35,120] (by simp) (by simp) w5 v8 E r3 e (by have L:=Z.o;rw [rG,rG] at L;exact L) aC.o ((pH _ _).trans ((pH _ _).trans p.o)) HL.o W U Q ⟨?_,?_⟩ f) (by kernel_rfl)
    ·intro B t r b f w' v' z A y;exact D.o.ok B t r (F.o.trans b) f w' v' z (o.o.trans A) y
    ·intro k b f w' v' z A;exact D.o.bad k (F.o.trans b) f w' v' z (o.o.trans A)
  ·have a0:=eS V (n:=120) rfl;have F:=Lh (show iG x.o.fails ents (35::d::r2)=eM x.o.fails false [38,35] (d::r2) by simp [iG,V]);clear V;go_simp;(repeat revert K);refine vT 42 ?_;refine cG [0,1,2,9,10,12,14,15,16] fun f=>?_;refine bB (IW x u.o c C.o false [38,35] (by simp) (by simp) Y X d r2 e (by have L:=T.o;rw [rG] at L;exact L) aA.o ((pH _ _).trans p.o) HL.o W U Q ⟨?_,?_⟩ f) (by kernel_rfl)
   ·intro B t r b f w' v' z A y;exact D.o.ok B t r (F.o.trans b) f w' v' z (g.o.trans A) y
   ·intro k b f w' v' z A;exact D.o.bad k (F.o.trans b) f w' v' z (g.o.trans A)
theorem F6 (s:Bs):nA s=0∨nA s=60∨nA s=62∨nA s=38∨nA s=39∨nA s=34:=by
 unfold nA;repeat' split
 all_goals simp
theorem VP (w:World):(binOp .neq 75 (.map none) (.map none)).run prog w=.ok (.bool false) w:=by kernel_rfl
theorem KS {fails : Bool} {ents : Option (Bs → Option Bs)} {c : UInt8} {r : Bs} (h : c ≠ 35) : iG fails ents (c :: r) = (match (aD (c :: r)).2 with
      | []=>.error (bY fails)
      | b :: after=>
        if b=59 then .ok (38 :: (aD (c :: r)).1 ++ [59],(if cX (aD (c :: r)).1 then wS ents (aD (c :: r)).1 else none),after)
        else .ok (38 :: (aD (c :: r)).1,none,b :: after)):=by
  unfold iG;simp only [h,if_false];rfl
theorem RT (l:Bs) (w:World) (g a b:Nat) (f:a+l.length≤b) (h:bJ w g a l):(convert 81 9 (.slice (if b=a then some ⟨g,0,none⟩ else some ⟨g,a,none⟩) l.length (b-a))).run prog w=.ok (aB l) w:=by
 by_cases c:b=a
 ·have d:l=[]:=List.length_eq_zero_iff.1 (by omega);subst d;rw [aY c];exact mP [] w g 0 _ (fun j e=>absurd e (by simp))
 ·rw [aQ c];exact mP l w g _ _ h
theorem DH (l:Bs) (w:World) (g a b:Nat) (k:a+l.length≤b) (j:b≤9223372036854775807) (m:l.length≤1000000000) (h:bJ w g a l) (i:Lib.Utf8Tabs 6 7 w) :
  Calls prog 96 #[.slice (if b=a then some ⟨g,0,none⟩ else some ⟨g,a,none⟩) l.length (b-a)] w fun e w'=>e=.returned (.bool (cX l))∧Below w.heap.size w w':=by
 by_cases c:l=[]
 ·subst c;exact (F5 _ _ w).mono fun e w' ⟨d,f⟩=>⟨d,by rw [f];exact Below.refl _ _⟩
 ·have:0<l.length:=List.length_pos_iff.2 c;rw [aQ (by omega)];exact C1 l g a (b-a) w c i h (by omega) (by omega) (by omega)
theorem DI (x:Cx) (hx:x.All) (c:DC) (H:hY x c) (q:c.ent=.map none) (w:World) (v:DV) (b1:UInt8) (a b nm:Bs) (h:cA x c w v (b1::a) none (b++38::nm)) (hl:b.length≤20000000000000) (a7:nm.length≤1000000000)
  (qv cv:Value) (Q:Exit→Act→World→Prop)
  (hQ:xP x c w v qv cv b Q (if b1=59 then .ok (38::nm++[59],(if cX nm then wS none nm else none),a) else .ok (38::nm,none,b1::a))) (f:Nat→Value) :
  (fC 60).wp prog Q (fr 381 f [(0,bT x),(1,qv),(2,cv),(9,.int .i64 0),(12,.int .i64 b.length),(14,aB []),(15,.bool false)]) w:=by
 have a5:=Lh (bK x hx.toOk c H w v b1 a none _ h);have T:=Lh h.suf;have ⟨V,HD,R,O⟩:=kS hx H hQ q;clear hQ h hx H q;unfold fC;conv=>arg 2;whnf
 refine vg ?_;intro K hK K hK K hK;refine a5.o.mono ?_;rintro e1 w1 ⟨rfl,v1,W,a6,Y,a3,_⟩;have ⟨H1,bA⟩:=cB W a6;have S:=Lh (a3.stp Y);clear W a6 Y a3 a5;by_cases hb:b1=59
 ·subst hb;rw [show (UInt8.toNat 59)=59 from rfl];simp only [if_true] at R;obtain ⟨g,F,hv,G,J,b4,_,_,_⟩:=H1.o.bf.bytes (by simp);have u:=Lh (l8 x c w1 v1 a none _ H1.o);have e:=G.drop (b.length+1);have aC:(b++38::nm).drop (b.length+1)=nm:=by
   rw [show b++38::nm=(b++[38])++nm by simp,List.drop_left' (by simp)]
  rw [Nat.zero_add,aC] at e;have i:(b++38::nm).length=b.length+1+nm.length:=by simp;omega
  have U:=Lh (fun (k:Nat)=>fV x V.o.toOk c (w1.drewN k) v1 a none _ (H1.o.drewN V.o.toOk k) 59 (by rw [i];omega));have ⟨HV,b9⟩:=cB hv G;rw [i] at hv J;rw [hv] at u;have ⟨C,P⟩:=cB e i;clear G e hv i aC;obtain ⟨D,hD⟩:=cK nm.length;rw [←hD] at u J a7;obtain ⟨A,hA⟩:=cK b.length;rw [←hA] at u J hl ⊢;have b7:IntKind.i64.wrap ((A:Int)+1)=((A+1:Nat):Int):=by rw [IntKind.wrap_i64];omega
  have a0:(0:Int)≤(A:Int)+1:=by omega
  have a1:(A:Int)+1≤(A:Int)+1+(D:Int):=by omega
  have a2:(A:Int)+1+(D:Int)≤(F:Int):=by omega
  have ⟨m,l⟩:=cB hD hA;clear hD hA;(repeat revert K);refine vS ?_;intro K hK K hK;refine u.o.mono ?_;rintro e2 w2 ⟨rfl,k2,rfl⟩;(repeat revert K);refine vS ?_;intro K hK K hK;refine (U.o k2).mono ?_;rintro e3 w3 ⟨rfl,v3,⟨h3,_,a8⟩,B⟩;have L:bJ w3 g (A+1) nm:=by
   intro j hj;have W:=C.o j hj;have h2:=B g _ _ HV.o (A+1+j) (by rw [P.o,l.o];omega);rw [←l.o] at W;exact h2.trans W
  have H3:=Lh h3;have b0:=Lh ((S.o.trans (cN.drewN k2)).trans a8);have X:=V.o.tabs h3.base;have I:=Lh (DH nm w3 g (A+1) F (by rw [←m.o];omega) b4 (by rw [←m.o];exact a7) L X);rw [←m.o] at I;have bC:=Lh L;clear h3 a8 B X U L;(repeat revert K);refine vS ?_;intro K hK K hK;refine I.o.mono ?_;rintro e4 w4 ⟨rfl,y⟩;have b5:=RT nm w4 g (A+1) F (by rw [←m.o];omega) (bC.o.below y);rw [←m.o] at b5;have N:=Lh (H3.o.below V.o.toOk y);have E:=Lh (b0.o.s0 (aH y _) rfl);have o:=Lh (H3.o.nonnil (by simp));clear y I;by_cases r:cX nm=true
  ·rw [r];have t:=Lh r;clear r;have b6:=Lh (fun w=>NY nm w);(repeat revert K);refine vS ?_;intro K hK K hK;refine (b6.o _).mono ?_;rintro e5 w5 ⟨rfl,rfl⟩;by_cases d:nA nm=0
   ·have p:=Lh (show (wS none nm)=none by unfold wS;rw [DG,aY d]);have hc:=N.o.dec.cell;have hf:=N.o.dec.frozen;have q:=O.o;have cT:=fun w=>VP w;have hd:decide (nA nm≠0)=false:=by simp [d]
    rw [hd];clear hd d;(repeat revert K);refine vS ?_;rw [l.o];refine Qk [0,1,2,9,12,14,15] fun f=>?_;exact R.o.ok _ none a (by rw [t.o,aY rfl,p.o]) f _ v3 (by have z:=N.o;rw [rG] at z;exact z) E.o o.o
   ·have p:=Lh (show (wS none nm)=some [UInt8.ofNat (nA nm)] by unfold wS;rw [DG,aQ d]);have M:=Lh (show Value.string (Utf8.encode (nA nm:Int))=aB [UInt8.ofNat (nA nm)] by
     rcases F6 nm with h|h|h|h|h|h
     ·exact absurd h d
     all_goals (rw [h];rfl))
    have c1:=fun w=>N1 (nA nm:Int) w;have hd:decide (nA nm≠0)=true:=by simp [d]
    rw [hd];clear hd d;(repeat revert K);refine vS ?_;rw [l.o];refine Qk [0,1,2,9,12,14,15] fun f=>?_;rw [M.o];exact R.o.ok _ (some [UInt8.ofNat (nA nm)]) a (by rw [t.o,aY rfl,p.o]) f _ v3 (by have z:=N.o;rw [rG] at z;exact z) E.o o.o
  ·have s:cX nm=false:=by simpa using r
   rw [s];have t:=Lh s;clear r s;(repeat revert K);refine vS ?_;rw [l.o];refine Qk [0,1,2,9,12,14,15] fun f=>?_;exact R.o.ok _ none a (by rw [t.o];rfl) f _ v3 (by have z:=N.o;rw [rG] at z;exact z) E.o o.o
 ·have aA:=eS hb (n:=59) rfl;have b3:((b1.toNat:Int) != 59)=true:=by simpa using aA
  have a9:=Lh (gG x V.o.toOk c w1 v1 b1 a _ H1.o bA.o T.o);have HB:=Lh hb;clear hb;(repeat revert K);refine vS ?_;intro K hK;refine a9.o.mono ?_;rintro e2 w2 ⟨rfl,v5,h5,_,Z,a4,_⟩;have H5:=Lh h5;have b2:=Lh (S.o.s0 a4 Z);have o:=Lh (h5.nonnil (by simp));clear h5 a4 Z a9;revert K;refine vS ?_;refine Qk [0,1,2,9,12,14,15] fun f=>?_;exact R.o.ok (38::nm) none (b1::a) (by rw [aQ HB.o]) f _ v5 H5.o b2.o o.o
theorem N2 (x:Cx) (W:x.All) (c:DC) (L:hY x c) (A:c.ent=.map none) (w:World) (v:DV) (b:UInt8) (hb:b≠35) (r d:Bs) (h:cA x c w v r none (d++[38])) (hn:v.nb=-1) (p:(b::r) <:+ x.T) (hl:d.length≤10000000000000-1)
  (X T:Value) (Q:Exit→Act→World→Prop) (hQ:xP x c w v X T d Q (iG x.o.fails none (b::r))) (f:Nat→Value) :
  (fC 56).wp prog Q (fr 381 f [(0,bT x),(1,X),(2,T),(9,.int .i64 0),(10,.int .u8 b.toNat),(12,.int .i64 d.length),(14,aB []),(15,.bool false)]) w:=by
 have R:=Lh (gG x W.toOk c w v b r _ h hn p);have ⟨HX,Y,H,y⟩:=kS W L hQ A;have aA:=Lh (show r.length+1≤1000000000 by have U:=p.length_le;have h2:=W.len;simp at U;omega);have j:=Lh (KS (fails:=x.o.fails) (ents:=none) (r:=r) hb);have ⟨Z,a1⟩:=cB hl p;have z:=Lh (kB (b::r));clear hQ h hn W L A hb hl p;unfold fC;conv=>arg 2;whnf
 refine vg ?_;intro K hK K hK;refine R.o.mono ?_;rintro e1 w1 ⟨rfl,v1,U,_,J,N,_⟩;have O:=Lh (xD x HX.o.toOk c Y.o w1 v1 (b::r) none _ U (by have:=Z.o;simp;omega));have aC:=Lh (N.stp J);clear U N J R;(repeat revert K);refine vS ?_;intro K hK K hK K hK;refine O.o.mono ?_;rintro e2 S ⟨F,P,hq⟩;have q:=Lh (aC.o.trans P);clear P O;rcases hq with ⟨g,rfl,E⟩|⟨g,o,rfl,i⟩|⟨g,o,rfl,i⟩
 ·obtain ⟨t,u,hu⟩:=E.err.iface;have hc:=E.dec.cell;have hf:=E.dec.frozen;have ⟨HE,I⟩:=cB E g;clear E g;(repeat revert K);refine vS ?_;intro K hK;refine Qk [6] fun f=>?_;exact H.o.bad _ (by rw [j.o,I.o]) f S F HE.o q.o
 ·have hc:=i.dec.cell;have hf:=i.dec.frozen;have E:F.err=.nilIface:=i.err;have ⟨HR,I,n⟩:=kV i g o;obtain ⟨b1,a,m⟩:∃ b1 a,(aD (b::r)).2=b1::a:=by
   cases M:(aD (b::r)).2 with
   | nil=>exact absurd M g
   | cons b1 a=>exact ⟨b1,a,rfl⟩
  have l:=Lh m;clear i g o m;have H3:=Lh (show cA x c S F (b1::a) none (d++38::[]) by
   have h3:=HR.o;have V:=z.o;rw [n.o,l.o] at V;have h5:b::r=b1::a:=by
    have h6:=l.o;have h7:(aD (b::r)).1=[]:=n.o;unfold aD at h6 h7;split at h6<;>rename_i M
    ·rw [aY M] at h7;cases h7
    ·exact h6
   rw [←h5];exact h3)
  go_simp;(repeat revert K);refine vT 60 ?_;refine cG [0,1,2,9,12,14,15] fun f=>?_;refine bB (DI x HX.o c Y.o y.o S F b1 a d [] H3.o (by have:=Z.o;omega) (by simp) X T Q ⟨?_,?_⟩ f) (by kernel_rfl)
  ·intro D t r e f w' v' i C B;exact H.o.ok D t r (by rw [j.o,l.o,n.o];exact e) f w' v' i (q.o.trans C) B
  ·intro k e f w' v' i C;exact H.o.bad k (by rw [j.o,l.o,n.o];exact e) f w' v' i (q.o.trans C)
 ·obtain ⟨b1,a,m⟩:∃ b1 a,(aD (b::r)).2=b1::a:=by
   cases M:(aD (b::r)).2 with
   | nil=>exact absurd M g
   | cons b1 a=>exact ⟨b1,a,rfl⟩
  obtain ⟨nm,s⟩:∃ nm,(aD (b::r)).1=nm:=⟨_,rfl⟩;rw [m,s] at i;have HR:=Lh (show cA x c S F (b1::a) none (d++38::nm) by rw [rG] at i;exact i);have ⟨l,G⟩:=cB m s;have a0:nm.length≤1000000000:=by
   have V:=z.o;rw [s,m] at V;simp at V;have:=aA.o;omega
  clear i g o m s;go_simp;(repeat revert K);refine vT 60 ?_;refine cG [0,1,2,9,12,14,15] fun f=>?_;refine bB (DI x HX.o c Y.o y.o S F b1 a d nm HR.o (by have:=Z.o;omega) a0 X T Q ⟨?_,?_⟩ f) (by kernel_rfl)
  ·intro D t r e f w' v' i C B;exact H.o.ok D t r (by rw [j.o,l.o,G.o];exact e) f w' v' i (q.o.trans C) B
  ·intro k e f w' v' i C;exact H.o.bad k (by rw [j.o,l.o,G.o];exact e) f w' v' i (q.o.trans C)
def kI (o:cV) (r a:Bs):Except EK (Bs×Bs):=
 match iG o.fails o.ents r with
 | .error e=>.error e
 | .ok (_,some t,r')=>.ok (r',a++t)
 | .ok (raw,none,r')=>if o.strict then .error .syn else .ok (r',a++raw)
theorem F7 (o:cV) (q:Option UInt8) (r:Bs) (b0 b1:UInt8) (a:Bs) (h:q≠some 38) :
  bF o q false (38::r) b0 b1 a=match kI o r a with|.error e=>.error e|.ok (r',buf')=>bF o q false r' 0 0 buf':=by
 rw [uB o q r b0 b1 a h];unfold kI;generalize iG o.fails o.ents r=R;rcases R with e|⟨raw,t,r'⟩
 ·rfl
 ·cases t with
  | none=>by_cases b:o.strict=true<;>simp [b]
  | some t=>rfl
theorem F8 (n:Nat):(gD n).length≤4:=by
 rw [gD,Array.length_toList,ByteArray.size_data];exact encode_size_le _
theorem DJ {fails a:Bool} {pre rest b t r:Bs} (h:eM fails a pre rest=.ok (b,some t,r)):t.length≤4:=by
 unfold eM at h;split at h
 ·cases h
 ·split at h
  ·simp only [cD,b8] at h;obtain ⟨_,h,_⟩:=h;split at h
   ·cases h
   ·simp only [jW] at h;rw [←h];exact F8 _
  ·simp at h
theorem xQ {fails b:Bool} {pre rest a r:Bs} {t:Option Bs} (c:1≤pre.length) (h:eM fails b pre rest=.ok (a,t,r)):1≤a.length:=by
 unfold eM at h;split at h
 ·cases h
 ·split at h<;>(simp only [cD,b8] at h;obtain ⟨h,_⟩:=h;subst h;simp;omega)
theorem F9 {s t:Bs} (h:rV s=some t):t.length≤4:=by
 unfold rV at h;repeat' split at h
 all_goals first|(cases h;simp)|cases h
theorem GA {fails:Bool} {rest a t r:Bs} (h:iG fails none rest=.ok (a,some t,r)):t.length≤4:=by
 unfold iG at h;split at h
 ·cases h
 ·split at h
  ·split at h
   ·cases h
   ·split at h
    ·split at h
     ·cases h
     ·exact DJ h
    ·exact DJ h
  ·split at h
   ·cases h
   ·split at h
    ·simp only [cD,b8] at h;obtain ⟨_,h,_⟩:=h;split at h
     ·unfold wS at h;split at h
      ·rename_i b;simp only [jW] at h;subst h;exact F9 b
      ·cases h
     ·cases h
    ·simp at h
theorem N3 {fails:Bool} {ents:Option (Bs→Option Bs)} {rest a r:Bs} {t:Option Bs} (h:iG fails ents rest=.ok (a,t,r)):1≤a.length:=by
 unfold iG at h;split at h
 ·cases h
 ·split at h
  ·split at h
   ·cases h
   ·split at h
    ·split at h
     ·cases h
     ·exact xQ (by simp) h
    ·exact xQ (by simp) h
  ·split at h
   ·cases h
   ·split at h<;>(simp only [cD,b8] at h;obtain ⟨h,_⟩:=h;subst h;simp)
theorem rQ {fails a:Bool} {pre rest c r:Bs} {t:Option Bs} (h:eM fails a pre rest=.ok (c,t,r)):c.length+r.length≤pre.length+rest.length:=by
 have e:(bX a rest).1.length+(bX a rest).2.length=rest.length:=by
  generalize rest=l;induction l with
  | nil=>rfl
  | cons b r ih=>unfold bX;split<;>simp<;>omega
 unfold eM at h;split at h
 ·cases h
 ·rename_i b d g;rw [g] at e;split at h<;>(simp only [cD,b8] at h;obtain ⟨h,_,f⟩:=h;subst h;subst f;simp at e ⊢;omega)
theorem pX {fails:Bool} {ents:Option (Bs→Option Bs)} {rest a r:Bs} {t:Option Bs} (h:iG fails ents rest=.ok (a,t,r)):a.length+r.length≤1+rest.length:=by
 unfold iG at h;split at h
 ·cases h
 ·rename_i c i;split at h
  ·split at h
   ·cases h
   ·split at h
    ·split at h
     ·cases h
     ·have:=rQ h;simp at this ⊢;omega
    ·have:=rQ h;simp at this ⊢;omega
  ·have e:=kB (c::i);split at h
   ·cases h
   ·rename_i b d g;rw [g] at e;split at h<;>(simp only [cD,b8] at h;obtain ⟨h,_,f⟩:=h;subst h;subst f;simp at e ⊢;omega)
structure VQ (x:Cx) (c:DC) (w:World) (v:DV) (g e:Value) (Q:Exit→Act→World→Prop) (b:Except EK (Bs×Bs)):Prop where
 ok:∀ d a,b=.ok (d,a)→∀ f w' v',cA x c w' v' d none a→cN x w v w' v'→cS v'→Q (.exit 1) (fr 381 f [(0,bT x),(1,g),(2,e),(7,.int .u8 0),(8,.int .u8 0),(9,.int .i64 0)]) w'
 bad:∀ k,b=.error k→∀ f w' v',iQ x c w' v' k→cN x w v w' v'→Q .ret (fr 381 f [(6,.slice none 0 0)]) w'
theorem RU (x:Cx) (Z:x.All) (c:DC) (N:hY x c) (A:c.ent=.map none) (m:x.o.ents=none) (w:World) (v:DV) (r g:Bs) (h:cA x c w v r none g) (q:(38::r) <:+ x.T) (hl:g.length≤9000000000000)
  (B z:Value) (Q:Exit→Act→World→Prop) (hQ:VQ x c w v B z Q (kI x.o r g)) (f:Nat→Value) :
  (fC 22).wp prog Q (fr 381 f [(0,bT x),(1,B),(2,z),(9,.int .i64 0)]) w:=by
 have P:=Lh (zW x c w v r none _ h);have Y:=Lh (fun (k:Nat)=>fW x Z.toOk c (w.drewN k) v r none _ (h.drewN Z.toOk k) 38 (by omega));have ⟨D,G,I,H,e,y⟩:=gT Z N hQ A m q;have HL:=Lh hl;have a0:=Lh (show r.length≤1000000000 by have h1:=q.length_le;have L:=Z.len;simp at h1;omega);clear hQ h q Z N A m hl;unfold fC;conv=>arg 2;whnf
 refine vg ?_;intro K hK K hK;refine P.o.mono ?_;rintro e0 w0 ⟨rfl,k0,rfl⟩;(repeat revert K);refine vS ?_;intro K hK K hK;refine (Y.o k0).mono ?_;rintro e1 w1 ⟨rfl,v1,h1,_,W⟩;have H1:=Lh h1;have J:=Lh ((cN.drewN k0).trans W);clear h1 W Y;(repeat revert K);refine vS ?_;intro K hK K hK K hK;cases r with
 | nil=>
  have p:=Lh (bN x D.o.toOk c G.o w1 v1 none _ H1.o);refine p.o.mono ?_;rintro e3 w3 ⟨rfl,v6,M,l,o⟩;have i:=Lh (J.o.s0 o l);have H6:=Lh M;clear M l o p;(repeat revert K);refine vS ?_;intro K hK;refine Qk [6] fun f=>?_;exact I.o.bad _ rfl f w3 v6 H6.o i.o
 | cons b r2=>
  have p:=Lh (bK x D.o.toOk c G.o w1 v1 b r2 none _ H1.o);refine p.o.mono ?_;rintro e3 w3 ⟨rfl,v6,M,R,l,o,_⟩;have i:=Lh (J.o.s0 o l);have ⟨H6,aC⟩:=cB M R;clear M l o p R;have HT:=Lh (show ∀ K:Act→World→Prop,(∀ a w,(fC 75).wp prog Q a w→K a w)→xP x c w3 v6 B z g (Exit.then K Q) (iG x.o.fails none (b::r2)) from fun K hK=>⟨fun C t r' d f w' v' hr V S=>by
    show K _ _;refine hK _ _ ?_;have T:=N3 d;have a1:=pX d;have X:=G.o.strict;have a3:=HL.o;have U:=a0.o;simp only [f5] at a1 U;cases t with
    | some t=>
     have ht:=GA d;refine zF x D.o.toFit c w' v' r' g C t hr S (by omega) (by omega) B z Q ⟨fun f F E aA b2 L j s O=>?_,fun hF=>hF.elim⟩ f;obtain ⟨rfl,rfl⟩:=O;exact I.o.ok _ _ (by unfold kI;rw [e.o,d]) f F E L ((i.o.trans V).trans j) s
    | none=>
     by_cases u:x.o.strict=true
     ·refine BX x D.o.toFit c (X.trans u) w' v' r' g C hr T (by rw [fP];omega) B z (aB []) Q (fun _ _=>False) ⟨fun f F E aA b2 L j s O=>O.elim,fun _ f F E he j=>?_⟩ f;exact I.o.bad .syn (by unfold kI;rw [e.o,d];simp [u]) f F E he ((i.o.trans V).trans j)
     ·refine xO x c (by rw [X];simpa using u) w' v' r' (g++C) hr S B z (aB []) Q ⟨fun f F E aA b2 L j s O=>?_,fun hF=>hF.elim⟩ _ f;obtain ⟨rfl,rfl⟩:=O;exact I.o.ok _ _ (by unfold kI;rw [e.o,d];simp [u]) f F E L ((i.o.trans V).trans j) s,
   fun k d f w' v' he V=>I.o.bad k (by unfold kI;rw [e.o,d]) f w' v' he (i.o.trans V)⟩)
  by_cases hb:b=35
  ·subst hb;go_simp;(repeat revert K);refine vT 31 ?_;intro K hK;refine cG [0,1,2,9,10,12,14,15] fun f=>?_;refine bB (RS x D.o c G.o w3 v6 r2 g H6.o ((pH _ _).trans y.o) (by have:=HL.o;omega) B z _ none (HT.o _ (fun a w h=>?_)) f) (by kernel_rfl);exact hK _ _ (bB h (by kernel_rfl))
  ·have a2:=eS hb (n:=35) rfl;have HB:=Lh hb;clear hb;go_simp;(repeat revert K);refine vT 56 ?_;intro K hK;refine cG [0,1,2,9,10,12,14,15] fun f=>?_;refine bB (N2 x D.o c G.o H.o w3 v6 b HB.o r2 g H6.o aC.o ((pH _ _).trans y.o) (by have:=HL.o;omega) B z _ (HT.o _ (fun a w h=>?_)) f) (by kernel_rfl);exact hK _ _ (bB h (by kernel_rfl))
inductive rR where
 | bad (k:EK)
 | stop (n:Nat) (rest:Bs) (e:Option EK) (buf:Bs)
 | on (rest:Bs) (b0 b1:UInt8) (buf:Bs)
def iT (o:cV) (q:Option UInt8) (c:Bool) (rest:Bs) (b0 b1:UInt8) (a:Bs):rR:=
 match rest with
 | []=>if c then .bad (bY o.fails) else .stop 0 [] (some (mM o.fails)) a
 | b::r=>
  if q=none∧b0=93∧b1=93∧b=62 then (if c then .stop 2 r none a else .bad .syn)
  else if b=60∧c=false then (if q=none then .stop 0 (b::r) none a else .bad .syn)
  else if q=some b then .stop 0 r none a
  else if b=38∧c=false then (match kI o r a with|.error k=>.bad k|.ok (r',buf')=>.on r' 0 0 buf')
  else .on r b1 b (fH b b1 a)
def sX (n:Nat) (rest a:Bs):Except EK (Bs×Bs):=if bL (a.take (a.length-n)) then .ok (a.take (a.length-n),rest) else .error .syn
theorem GB (o:cV) (q:Option UInt8) (c:Bool) (rest:Bs) (b0 b1:UInt8) (a:Bs) :
  bF o q c rest b0 b1 a=match iT o q c rest b0 b1 a with
   | .bad k=>.error k
   | .stop n r _ b=>sX n r b
   | .on r b0 b1 b=>bF o q c r b0 b1 b:=by
 cases rest with
 | nil=>
  rw [jM];unfold iT;cases c<;>simp [sX]
 | cons b r=>
  unfold iT;by_cases f:q=none∧b0=93∧b1=93∧b=62
  ·obtain ⟨rfl,rfl,rfl,rfl⟩:=f;rw [qY];cases c<;>simp [sX]
  ·by_cases d:b=60∧c=false
   ·obtain ⟨rfl,rfl⟩:=d;rw [xK];simp only [aQ f];by_cases i:q=none<;>simp [i,sX]
   ·by_cases g:q=some b
    ·subst g;rw [u7 o c b r b0 b1 a d];simp [d,sX]
    ·by_cases h:b=38∧c=false
     ·obtain ⟨rfl,rfl⟩:=h;rw [F7 o q r b0 b1 a g];simp only [aQ f,aQ d,aQ g];generalize kI o r a=R;rcases R with e|⟨r',b'⟩<;>simp
     ·rw [cF o q c b r b0 b1 a f d g h];simp only [aQ f,aQ d,aQ g,aQ h]
def qI:Option UInt8→Int
 | none=>-1
 | some b=>b.toNat
structure sY (x:Cx) (c:DC) (w:World) (v:DV) (q:Option UInt8) (i:Bool) (Q:Exit→Act→World→Prop) (a:rR):Prop where
 bad:∀ k,a=.bad k→∀ f w' v',iQ x c w' v' k→cN x w v w' v'→Q .ret (fr 381 f [(6,.slice none 0 0)]) w'
 stop:∀ n h j b,a=.stop n h j b→∀ f w' v',cA x c w' v' h j b→cN x w v w' v'→(cS v→cS v')→(i=true→v'.nb=-1)→Q (.exit 0) (fr 381 f [(0,bT x),(9,.int .i64 n)]) w'
 on:∀ h d g b,a=.on h d g b→∀ e,(e=.normal∨e=.exit 1)→∀ f w' v',cA x c w' v' h none b→cN x w v w' v'→cS v'→Q e (fr 381 f [(0,bT x),(1,.int .i64 (qI q)),(2,.bool i),(7,.int .u8 d.toNat),(8,.int .u8 g.toNat),(9,.int .i64 0)]) w'
theorem zH (x:Cx) (C:x.All) (c:DC) (p:hY x c) (q:Option UInt8) (t:Bool) (w:World) (v:DV) (e:Option EK) (j:Bs) (b0 b1:UInt8) (h:cA x c w v [] e j) (Q:Exit→Act→World→Prop)
  (F:sY x c w v q t Q (iT x.o q t [] b0 b1 j)) (f:Nat→Value) :
  (fC 4).wp prog Q (fr 381 f [(0,bT x),(1,.int .i64 (qI q)),(2,.bool t),(7,.int .u8 b0.toNat),(8,.int .u8 b1.toNat),(9,.int .i64 0)]) w:=by
 have I:=Lh (qX x C.toOk c p w v e j h);have ⟨s,A⟩:=cB C F;clear F h C p;unfold fC;conv=>arg 2;whnf
 refine vg ?_;intro K hK K hK;refine I.o.mono ?_;rintro S w1 ⟨rfl,y,o,B,l,r,D⟩;have m:=Lh o;have i:=Lh (r.stp l);have z:=Lh l;have L:=o.dec.cell;have N:=o.dec.frozen;have d:=o.err;clear o B l r D I;cases t with
 | false=>
  (repeat revert K);refine vS ?_;intro K hK;refine Qk [0,9] fun f=>?_;exact A.o.stop 0 _ _ _ rfl f w1 y m.o i.o (fun R=>R.of_eq z.o) (fun P=>by cases P)
 | true=>
  have H:w1.cell? ⟨0,0,none⟩=some x.eofV:=by rw [←s.o.eof];exact m.o.base.cell s.o.gB
  have J:=Lh (fun k E=>oI s.o.toOk (m.o.drewN s.o.toOk k) E);have U:=fun a w=>BJ a w;have V:=fun a b w=>BK a b w;cases g:x.o.fails
  ·have G:y.err=x.eofV:=by rw [g] at d;exact d
   clear d;(repeat revert K);refine vS ?_;intro K hK K hK K hK K hK;refine cG [0] fun f=>?_;go_quiet (fail);(repeat revert K);refine vg ?_;intro K hK K hK K hK K hK;refine (J.o _ _).mono ?_;rintro T W ⟨rfl,u⟩;have M:=u.dec.cell;have O:=u.dec.frozen;have n:=Lh u;clear u L N;(repeat revert K);refine vS ?_;intro K hK K hK;refine Qk [6] fun f=>?_;exact A.o.bad .syn (by show rR.bad (bY x.o.fails)=_;rw [g];rfl) f _ _ n.o.err ((i.o.trans (cN.drewN _)).trans n.o.stp)
  ·have G:y.err=y6:=by rw [g] at d;exact d
   clear d;(repeat revert K);refine vS ?_;intro K hK K hK K hK K hK;refine cG [0] fun f=>?_;go_quiet (fail);(repeat revert K);refine vg ?_;intro K hK K hK;refine Qk [6] fun f=>?_;exact A.o.bad .own (by show rR.bad (bY x.o.fails)=_;rw [g];rfl) f _ y ⟨bM m.o.base _,m.o.dec,G⟩ (i.o.trans (cN.drewN _))
theorem RV (q:Option UInt8) (b0 b1 b:UInt8) (v0 k l:Value) (Q:Exit→Act→World→Prop) (w:World) (f:Nat→Value)
  (i:∀ f,Q .normal (fr 381 f [(0,v0),(1,.int .i64 (qI q)),(2,k),(7,.int .u8 b0.toNat),(8,.int .u8 b1.toNat),(9,l),(10,.int .u8 b.toNat),(66,.bool (decide (q=none∧b0=93∧b1=93∧b=62)))]) w) :
  (AF 10).wp prog Q (fr 381 f [(0,v0),(1,.int .i64 (qI q)),(2,k),(7,.int .u8 b0.toNat),(8,.int .u8 b1.toNat),(9,l),(10,.int .u8 b.toNat)]) w:=by
 have c:=Lh i;clear i;unfold AF;conv=>arg 2;whnf
 cases q with
 | some qb=>
  have m:¬ (qI (some qb)<0):=by show ¬ ((qb.toNat:Int)<0);omega
  refine vg ?_;refine Qk [0,1,2,7,8,9,10,66] fun f=>?_;have a:=c.o f;simp at a;exact a
 | none=>
  rw [show qI none=-1 from rfl] at c ⊢;by_cases d:b0=93
  ·subst d;rw [show (UInt8.toNat 93)=93 from rfl] at c ⊢;by_cases e:b1=93
   ·subst e;rw [show (UInt8.toNat 93)=93 from rfl] at c ⊢;by_cases h:b=62
    ·subst h;rw [show (UInt8.toNat 62)=62 from rfl] at c ⊢;refine vg ?_;refine Qk [0,1,2,7,8,9,10,66] fun f=>?_;have a:=c.o f;simp at a;exact a
    ·have j:=eS h (n:=62) rfl;have g:=Lh h;clear h;refine vg ?_;refine Qk [0,1,2,7,8,9,10,66] fun f=>?_;have a:=c.o f;simp [g.o] at a;exact a
   ·have j:=eS e (n:=93) rfl;have g:=Lh e;clear e;refine vg ?_;refine Qk [0,1,2,7,8,9,10,66] fun f=>?_;have a:=c.o f;simp [g.o] at a;exact a
  ·have j:=eS d (n:=93) rfl;have g:=Lh d;clear d;refine vg ?_;refine Qk [0,1,2,7,8,9,10,66] fun f=>?_;have a:=c.o f;simp [g.o] at a;exact a
theorem RW (q:Option UInt8) (b:UInt8) (v0 g i j k:Value) (Q:Exit→Act→World→Prop) (w:World) (f:Nat→Value)
  (e:∀ f,Q .normal (fr 381 f [(0,v0),(1,.int .i64 (qI q)),(2,g),(7,i),(8,j),(9,k),(10,.int .u8 b.toNat),(95,.bool (decide (q=some b)))]) w) :
  (AF 20).wp prog Q (fr 381 f [(0,v0),(1,.int .i64 (qI q)),(2,g),(7,i),(8,j),(9,k),(10,.int .u8 b.toNat)]) w:=by
 have c:=Lh e;clear e;unfold AF;conv=>arg 2;whnf
 cases q with
 | none=>
  rw [show qI none=-1 from rfl] at c ⊢;refine vg ?_;refine Qk [0,1,2,7,8,9,10,95] fun f=>?_;have a:=c.o f;simp at a;exact a
 | some qb=>
  rw [show qI (some qb)=(qb.toNat:Int) from rfl] at c ⊢;have m:=qb.toNat_lt;have n:(0:Int)≤(qb.toNat:Int):=by omega
  have o:IntKind.u8.wrap (qb.toNat:Int)=(qb.toNat:Int):=by rw [IntKind.wrap_u8];omega
  by_cases d:qb=b
  ·subst d;refine vg ?_;refine Qk [0,1,2,7,8,9,10,95] fun f=>?_;have a:=c.o f;simp at a;exact a
  ·have p:((b.toNat:Int)==(qb.toNat:Int))=false:=by
    rw [lQ];intro h;exact d (UInt8.toNat_inj.1 (by omega))
   have l:=Lh d;clear d;refine vg ?_;refine Qk [0,1,2,7,8,9,10,95] fun f=>?_;have a:=c.o f;simp [l.o] at a;exact a
theorem N4 (x:Cx) (hx:x.All) (c:DC) (O:hY x c) (u:c.ent=.map none) (n:x.o.ents=none) (q:Option UInt8) (s:Bool) (w w1:World) (v z:DV) (b:UInt8) (r a:Bs) (b0 b1:UInt8) (h:cA x c w1 z r none a) (F:cN x w v w1 z) (y:(b::r) <:+ x.T)
  (P:cS z∨(b0=0∧b1=0)) (hl:a.length≤8000000000000) (h1:¬ (q=none∧b0=93∧b1=93∧b=62)) (t:¬ (b=60∧s=false)) (h3:q≠some b) (Q:Exit→Act→World→Prop)
  (hQ:sY x c w v q s Q (iT x.o q s (b::r) b0 b1 a)) (f:Nat→Value) :
  (fC 21).wp prog Q (fr 381 f [(0,bT x),(1,.int .i64 (qI q)),(2,.bool s),(7,.int .u8 b0.toNat),(8,.int .u8 b1.toNat),(9,.int .i64 0),(10,.int .u8 b.toNat)]) w1:=by
 have ⟨S,V,l⟩:=kV h hx F;have g:=Lh (show iT x.o q s (b::r) b0 b1 a=(if b=38∧s=false then (match kI x.o r a with|.error k=>.bad k|.ok (Z,buf')=>.on Z 0 0 buf') else .on r b1 b (fH b b1 a)) by
  unfold iT;simp only [aQ h1,aQ t,aQ h3])
 have ⟨I,HD,T,J,H,A⟩:=gT hQ O P y u n;clear hQ h hx F O P y u n h1 t h3;unfold fC;conv=>arg 2;whnf
 by_cases M:b=38∧s=false
 ·have j:=Lh (g.o.trans (aY M));obtain ⟨rfl,rfl⟩:=M;clear g;rw [show (UInt8.toNat 38)=38 from rfl];refine vT 22 ?_;intro K hK;refine cG [0,1,2,9] fun f=>?_;refine bB (RU x V.o c HD.o H.o A.o w1 z r a S.o J.o (by omega) _ _ _ ⟨fun Z b' X f w' v' Y F hn=>?_,fun k X f w' v' Y F=>?_⟩ f) (by kernel_rfl)
  ·exact I.o.on Z 0 0 b' (by rw [j.o,X]) _ (aU rfl) f w' v' Y (l.o.trans F) hn
  ·exact I.o.bad k (by rw [j.o,X]) f w' v' Y (l.o.trans F)
 ·have j:=Lh (g.o.trans (aQ M));have i:((b.toNat:Int)==38)=false∨(((b.toNat:Int)==38)=true∧s=true):=by
   by_cases e:b=38
   ·right;subst e;cases s with
    | true=>exact ⟨rfl,rfl⟩
    | false=>exact absurd ⟨rfl,rfl⟩ M
   ·exact aG (eS e rfl)
  clear M g;have E:(b=13)∨(b≠13∧b1=13∧b=10)∨(b≠13∧¬ (b1=13∧b=10)):=by
   by_cases e:b=13
   ·exact aG e
   ·by_cases d:b1=13∧b=10
    ·exact aU (aG ⟨e,d⟩)
    ·exact aU (aU ⟨e,d⟩)
  rcases E with e|⟨e,m,d⟩|⟨e,d⟩
  ·have C:=Lh (show fH b b1 a=a++[10] by unfold fH;rw [aY e]);have W:((b.toNat:Int)==13)=true:=by subst e;rfl
   have p:=Lh (fW x V.o.toOk c w1 z r none _ S.o 10 (by omega));clear e;rcases i with i|⟨i,rfl⟩
   all_goals
    refine vg ?_;intro K hK K hK;refine p.o.mono ?_;rintro e2 w2 ⟨rfl,v2,t,_,o⟩;have G:=Lh t;have B:=Lh (l.o.trans o);clear t o p;(repeat revert K);refine vS ?_;refine Qk [0,1,2,7,8,9] fun f=>?_;exact I.o.on r b1 b _ j.o _ (aG rfl) f w2 v2 (by rw [C.o];exact G.o) B.o (G.o.nonnil (by simp))
  ·subst m;subst d;have R:cS z:=by
    rcases T.o with h|⟨_,h⟩
    ·exact h
    ·exact absurd h (by decide)
   have U:=Lh R;clear R e;rw [show (UInt8.toNat 13)=13 from rfl,show (UInt8.toNat 10)=10 from rfl];refine vg ?_;refine Qk [0,1,2,7,8,9] fun f=>?_;exact I.o.on r 13 10 a j.o _ (aG rfl) f w1 z S.o l.o U.o
  ·have C:=Lh (show fH b b1 a=a++[b] by unfold fH;rw [aQ e,aQ d]);have W:((b.toNat:Int)==13)=false:=eS e rfl;have D:((b1.toNat:Int)==13)=false∨(((b1.toNat:Int)==13)=true∧((b.toNat:Int)==10)=false):=by
    by_cases m:b1=13
    ·right;have N:b≠10:=fun h=>d ⟨m,h⟩;exact ⟨by subst m;rfl,eS N rfl⟩
    ·exact aG (eS m rfl)
   have p:=Lh (fW x V.o.toOk c w1 z r none _ S.o b (by omega));clear e d;rcases i with i|⟨i,rfl⟩
   all_goals
    rcases D with L|⟨L,aA⟩
    all_goals
     refine vg ?_;intro K hK K hK;refine p.o.mono ?_;rintro e2 w2 ⟨rfl,v2,t,_,o⟩;have G:=Lh t;have B:=Lh (l.o.trans o);clear t o p;(repeat revert K);refine vS ?_;refine Qk [0,1,2,7,8,9] fun f=>?_;exact I.o.on r b1 b _ j.o _ (aG rfl) f w2 v2 (by rw [C.o];exact G.o) B.o (G.o.nonnil (by simp))
theorem xR (x:Cx) (Z:x.All) (c:DC) (z:hY x c) (o:c.ent=.map none) (j:x.o.ents=none) (q:Option UInt8) (t:Bool) (w:World) (v:DV) (e:Option EK) (b:UInt8) (r a:Bs) (b0 b1:UInt8) (h:cA x c w v (b::r) e a)
  (N:cS v∨(b0=0∧b1=0)) (hl:a.length≤8000000000000) (Q:Exit→Act→World→Prop)
  (hQ:sY x c w v q t Q (iT x.o q t (b::r) b0 b1 a)) (f:Nat→Value) :
  (fC 4).wp prog Q (fr 381 f [(0,bT x),(1,.int .i64 (qI q)),(2,.bool t),(7,.int .u8 b0.toNat),(8,.int .u8 b1.toNat),(9,.int .i64 0)]) w:=by
 have hg:=Lh (oB x Z.toOk c z w v b r e a h);have n:=Lh h.suf;have ⟨V,HD,A,F,E,p⟩:=gT Z z hQ N o j;have HL:=Lh hl;clear hQ h Z z N o j hl;unfold fC;conv=>arg 2;whnf
 refine vg ?_;intro K hK K hK;refine hg.o.mono ?_;rintro e1 w1 ⟨rfl,R,B,M,u,I,aA⟩;have D:=Lh B;have d:=Lh (I.stp u);have ⟨k,s⟩:=cB u M;have H:=Lh (fun aC=>oI V.o.toOk D.o aC);clear B M u I aA hg;have a0:(0:Int)≤(b.toNat:Int):=by omega
 by_cases B:q=none∧b0=93∧b1=93∧b=62
 ·obtain ⟨rfl,rfl,rfl,rfl⟩:=B;have a1:cS v:=by
   rcases F.o with h|⟨h,_⟩
   ·exact h
   ·exact absurd h (by decide)
  rw [show (UInt8.toNat 93)=93 from rfl,show (UInt8.toNat 62)=62 from rfl,show qI none=-1 from rfl];cases t with
  | true=>
   (repeat revert K);refine vS ?_;intro K hK K hK;refine Qk [0,9] fun f=>?_;exact A.o.stop 2 _ _ _ rfl f w1 R D.o d.o (fun L=>L.of_eq k.o) (fun _=>s.o)
  | false=>
   (repeat revert K);refine vS ?_;intro K hK K hK K hK;refine (H.o _).mono ?_;rintro e2 w2 ⟨rfl,m⟩;have X:=m.dec.cell;have Y:=m.dec.frozen;have G:=Lh m;clear m;(repeat revert K);refine vS ?_;intro K hK;refine Qk [6] fun f=>?_;exact A.o.bad .syn rfl f _ _ G.o.err (d.o.trans G.o.stp)
 ·have g:=Lh B;clear B;go_simp;(repeat revert K);refine vT 10 ?_;refine cG [0,1,2,7,8,9,10] fun f=>?_;refine wp_seq_k (fun K hK=>?_);refine wp_seq_k (fun W i=>?_);refine bB (RV q b0 b1 b _ _ _ _ w1 f ?_) (by kernel_rfl);intro f;rw [decide_eq_false g.o];simp only [Exit.then];refine i _ _ ?_;clear i W;by_cases P:b=60∧t=false
  ·obtain ⟨rfl,rfl⟩:=P;rw [show (UInt8.toNat 60)=60 from rfl];cases q with
   | none=>
    rw [show qI none=-1 from rfl];have O:=Lh (gG x V.o.toOk c w1 R 60 r _ D.o s.o n.o);revert K;refine vg ?_;intro K hK K hK K hK;refine O.o.mono ?_;rintro e2 w2 ⟨rfl,v5,h5,_,y,J,_⟩;have ⟨H5,T⟩:=cB h5 y;have U:=Lh (d.o.s0 J y);clear h5 J y O;(repeat revert K);refine vS ?_;intro K hK;refine Qk [0,9] fun f=>?_;exact A.o.stop 0 (60::r) none a (by unfold iT;simp) f _ v5 H5.o U.o (fun L=>(L.of_eq k.o).of_eq T.o) (fun hh=>by cases hh)
   | some qb=>
    have h0:(0:Int)≤qI (some qb):=by show (0:Int)≤(qb.toNat:Int);omega
    revert K;refine vg ?_;intro K hK K hK K hK K hK;refine (H.o _).mono ?_;rintro e2 w2 ⟨rfl,m⟩;have X:=m.dec.cell;have Y:=m.dec.frozen;have G:=Lh m;clear m;(repeat revert K);refine vS ?_;intro K hK K hK;refine Qk [6] fun f=>?_;exact A.o.bad .syn (by unfold iT;simp) f _ _ G.o.err (d.o.trans G.o.stp)
  ·have H2:=Lh P;have l:((b.toNat:Int)==60)=false∨(((b.toNat:Int)==60)=true∧t=true):=by
    by_cases hb:b=60
    ·right;subst hb;cases t with
     | true=>exact ⟨rfl,rfl⟩
     | false=>exact absurd ⟨rfl,rfl⟩ P
    ·exact aG (eS hb rfl)
   clear P;rcases l with l|⟨l,rfl⟩
   all_goals
    revert K;refine vT 20 ?_;refine cG [0,1,2,7,8,9,10] fun f=>?_;clear l;refine wp_seq_k (fun K hK=>?_);refine wp_seq_k (fun W i=>?_);refine bB (RW q b _ _ _ _ _ _ w1 f ?_) (by kernel_rfl);intro f;simp only [Exit.then];refine i _ _ ?_;clear i W;by_cases C:q=some b
    ·rw [decide_eq_true C];have S:=Lh C;clear C;revert K;refine vg ?_;intro K hK;refine Qk [0,9] fun f=>?_;exact A.o.stop 0 r none a (by unfold iT;simp only [aQ g.o,aQ H2.o,aY S.o]) f _ R D.o d.o (fun L=>L.of_eq k.o) (fun _=>s.o)
    ·rw [decide_eq_false C];have S:=Lh C;clear C;revert K;refine vT 21 ?_;refine cG [0,1,2,7,8,9,10] fun f=>?_;exact bB (N4 x V.o c HD.o E.o p.o q _ w w1 v R b r a b0 b1 D.o d.o n.o (F.o.imp (fun h=>h.of_eq k.o) id) HL.o g.o H2.o S.o Q A.o f) (by kernel_rfl)
theorem RX (n b0 b1 a b:Nat) (c:1≤n):(Lib.decodeN n b0 b1 a b).2≤n:=by
 unfold Lib.decodeN;repeat' split
 all_goals (simp only;omega)
theorem sZ (l:Bs) (h:l≠[]):(dB l).2≤l.length:=by
 have a:(⟨l.toArray⟩:ByteArray).size=l.length:=rfl;have b:0<l.length:=List.length_pos_iff.2 h;unfold dB Lib.decodeGoB;rw [a,aQ (by omega),Lib.decode_at];exact RX _ _ _ _ _ (by rw [a];omega)
def XW (b0 b1:UInt8) (a:Bs):Prop:=(b1=93→1≤a.length)∧(b0=93∧b1=93→2≤a.length)
theorem KT {o:cV} (y:o.ents=none) {q:Option UInt8} {p:Bool} {rest:Bs} {b0 b1:UInt8} {d k:Bs} {f g:UInt8} {a:Bs} (h:iT o q p rest b0 b1 d=.on k f g a) (w:XW b0 b1 d) :
  k.length<rest.length∧a.length+8*k.length≤d.length+8*rest.length∧XW f g a:=by
 unfold iT at h;split at h
 ·split at h<;>cases h
 ·rename_i b r;split at h
  ·split at h<;>cases h
  ·split at h
   ·split at h<;>cases h
   ·split at h
    ·cases h
    ·split at h
     ·split at h
      ·cases h
      ·rename_i A n c;simp only [rR.on.injEq] at h;obtain ⟨rfl,rfl,rfl,rfl⟩:=h;have m:XW 0 0 n:=⟨fun h=>absurd h (by decide),fun h=>absurd h.1 (by decide)⟩;unfold kI at c;rw [y] at c;split at c
       ·cases c
       ·rename_i l t z i;simp only [cD,b8] at c;obtain ⟨rfl,rfl⟩:=c;have s:=gE i;have u:=GA i;simp;exact ⟨by omega,by omega,m⟩
       ·rename_i l z i;split at c
        ·cases c
        ·simp only [cD,b8] at c;obtain ⟨rfl,rfl⟩:=c;have s:=gE i;have u:=pX i;simp;exact ⟨by omega,by omega,m⟩
     ·simp only [rR.on.injEq] at h;obtain ⟨rfl,rfl,rfl,rfl⟩:=h;unfold fH;obtain ⟨v,x⟩:=w;refine ⟨by simp,?_,?_,?_⟩
      ·split
       ·simp;omega
       ·split<;>simp<;>omega
      ·intro e;subst e;rw [aQ (by decide),aQ (by rintro ⟨_,h⟩;revert h;decide)];simp
      ·rintro ⟨e,j⟩;subst j;rw [aQ (by decide),aQ (by rintro ⟨_,h⟩;revert h;decide)];have:=v e;simp;omega
theorem DK {o:cV} {q:Option UInt8} {f:Bool} {rest:Bs} {b0 b1:UInt8} {d k:Bs} {n:Nat} {i:Option EK} {c:Bs} (h:iT o q f rest b0 b1 d=.stop n k i c) (l:XW b0 b1 d) :
  n≤c.length∧c=d∧(q=none→f=false→k=[]→i=some (mM o.fails))∧((b0=0∧b1=0)→q=none→f=false∧(rest=[]∨∃ r,rest=60::r)):=by
 unfold iT at h;split at h
 ·split at h
  ·cases h
  ·simp only [rR.stop.injEq] at h;obtain ⟨rfl,rfl,rfl,rfl⟩:=h;rename_i e;exact ⟨jU _,rfl,fun _ _ _=>rfl,fun _ _=>⟨by simpa using e,aG rfl⟩⟩
 ·rename_i b r;split at h
  ·rename_i a;split at h
   ·simp only [rR.stop.injEq] at h;obtain ⟨rfl,rfl,rfl,rfl⟩:=h;rename_i e;refine ⟨l.2 ⟨a.2.1,a.2.2.1⟩,rfl,(fun _ j=>by rw [e] at j;cases j),fun m=>?_⟩;rw [m.1] at a;exact absurd a.2.1 (by decide)
   ·cases h
  ·split at h
   ·rename_i a;split at h
    ·simp only [rR.stop.injEq] at h;obtain ⟨rfl,rfl,rfl,rfl⟩:=h;exact ⟨jU _,rfl,(fun _ _ h=>by cases h),fun _ _=>⟨a.2,aU ⟨r,by rw [a.1]⟩⟩⟩
    ·cases h
   ·split at h
    ·rename_i a;simp only [rR.stop.injEq] at h;obtain ⟨rfl,rfl,rfl,rfl⟩:=h;exact ⟨jU _,rfl,(fun g=>by rw [g] at a;cases a),(fun _ g=>by rw [g] at a;cases a)⟩
    ·split at h
     ·split at h<;>cases h
     ·cases h
def X8 (x:Cx) (w1:World) (g:Nat) (e:Value) (d:Bs) (m:Nat) (a:Act) (w:World):Prop:=
 ∃ f b l c k,a=fr 381 f [(0,bT x),(26,e),(27,.slice (some ⟨g,b,none⟩) l.length c)]∧Below w1.heap.size w1 w∧bJ w g b l∧l.length≤c∧c≤9223372036854775807∧l.length≤k∧bL d=cP k l∧m=l.length
theorem fZ (k:Nat):cP k []=true:=by cases k<;>simp [cP]
theorem RY (x:Cx) (hx:x.All) (c:DC) (w:World) (v:DV) (r:Bs) (e:Option EK) (b:Bs) (n:Nat) (h:cA x c w v r e b) (bA:cS v) (c3:n≤b.length) (hl:b.length≤10000000000000) (Q:Exit→Act→World→Prop)
  (bC:bL (b.take (b.length-n))=true→∀ g a,v.bufv=.slice (some ⟨g,0,none⟩) b.length a→∀ f w',cA x c w' v r e b→cN x w v w' v→Q .ret (fr 381 f [(6,.slice (some ⟨g,0,none⟩) (b.length-n:Nat) a)]) w')
  (q:bL (b.take (b.length-n))=false→∀ f w' v',iQ x c w' v' .syn→cN x w v w' v'→Q .ret (fr 381 f [(6,.slice none 0 0)]) w') (f:Nat→Value) :
  (fC 91).wp prog Q (fr 381 f [(0,bT x),(9,.int .i64 n)]) w:=by
 obtain ⟨g,a,M,a5,c1,b5⟩:∃ g a,v.bufv=.slice (some ⟨g,0,none⟩) b.length a∧bJ w g 0 b∧b.length≤a∧a≤9223372036854775807:=by
  rcases h.bf with ⟨M,_⟩|⟨g,a,arr,M,hg,R,hl,b6,hB,z,b7⟩
  ·exact absurd M bA.ne
  ·exact ⟨g,a,M,fun j hj=>by rw [Nat.zero_add,hg.cell];exact b7 j hj,hl,b6⟩
 have N:=Lh (l8 x c w v r e b h);have ⟨HX,H⟩:=cB hx h;have A:=Lh (bC · g a M);have s:=Lh q;have hd:bJ w g 0 (b.take (b.length-n)):=by
  intro j hj;rw [pI] at hj;rw [a5 j (by omega)];simp only [rF,List.getElem?_take];rw [aY (by omega)]
 obtain ⟨d,O⟩:=cK (b.take (b.length-n));have D:d.length=b.length-n:=by rw [O,pI];omega
 rw [←O] at A s hd;obtain ⟨B,hB⟩:=cK b.length;rw [←hB] at D hl c1 c3 M;rw [M] at N;have c9:=Lh D;have b1:IntKind.i64.wrap ((B:Int)-(n:Int))=(d.length:Int):=by rw [IntKind.wrap_i64];omega
 have d0:(0:Int)≤(d.length:Int):=by omega
 have d1:(d.length:Int)≤(a:Int):=by omega
 have HD:=Lh hd;have a8:d.length≤a:=by omega
 rw [←hB] at A;rw [←D] at A;clear bC q h hx bA a5 O hB D hd M;unfold fC;conv=>arg 2;whnf
 refine vg ?_;intro K hK K hK;refine N.o.mono ?_;rintro e1 w1 ⟨rfl,k1,rfl⟩;(repeat revert K);refine vS ?_;intro K hK;refine cG [0,26,27] fun f=>?_;have U:=Lh (show bJ (w.drewN k1) g 0 d from HD.o);have H1:=Lh (H.o.drewN HX.o.toOk k1);have aA:=Lh (cN.drewN (x:=x) (w:=w) (v:=v) k1);clear b1 N;generalize w.drewN k1=w1 at U H1 aA ⊢;refine wp_loop_ghost_k (X8 x w1 g (.slice (some ⟨g,0,none⟩) d.length a) d) d.length ⟨f,0,d,a,d.length,rfl,Below.refl _ _,U.o,a8,b5,dF _,rfl,rfl⟩ ?_;rintro m _ w2 ⟨f,T,l,cp,k,rfl,C,a4,c7,c6,hk,a6,hm⟩ J K2 hJ a2;have ⟨HJ,b3,X,V,HK,Y⟩:=gT hJ a2 C a4 hk a6;have HM:=Lh hm;have H2:=Lh (H1.o.below HX.o.toOk C);have aC:=Lh (aA.o.s0 (aH C _) rfl);clear hJ a2 C a4 hk a6 hm;by_cases o:l=[]
 ·subst o;revert K;refine vg ?_;refine Qk [6] fun f=>?_;exact A.o (by rw [Y.o];exact fZ k) f w2 H2.o aC.o
 ·have dI:=Lh o;have c8:(0:Int)<(l.length:Int):=by have:=List.length_pos_iff.2 o;omega
  have E:=Lh (NA l g T cp w2 (HX.o.tabs H2.o.base) V.o);have b2:=sZ l o;have c4:=pS l o;obtain ⟨S,cT⟩:∃ S,k=S+1:=⟨k-1,by have:=HK.o;omega⟩;subst cT;have L:bL d=(if (dB l).1=65533∧(dB l).2=1 then false else if bW (dB l).1 then cP S (l.drop (dB l).2) else false):=by
   rw [Y.o];rw [cP,aQ o]
  have p:=Lh L;clear L o;obtain ⟨F,b0⟩:=cK ((dB l).1);obtain ⟨i,R⟩:=cK ((dB l).2);rw [←b0] at E p;rw [←R] at E p b2 c4;clear b0 R;have dT:(0:Int)≤(i:Int):=by omega
  have d2:(i:Int)≤(l.length:Int):=by omega
  have d3:(l.length:Int)≤(cp:Int):=by omega
  have q:(((F:Int)==65533)=false)∨(((F:Int)==65533)=true∧((i:Int)==1)=false)∨(((F:Int)==65533)=true∧((i:Int)==1)=true):=by
   cases ((F:Int)==65533)<;>cases ((i:Int)==1)<;>simp
  revert K;refine vg ?_;intro K hK K hK K hK;refine E.o.mono ?_;rintro e2 w3 ⟨rfl,y⟩;have H3:=Lh (H2.o.below HX.o.toOk y);have a0:=Lh (aC.o.s0 (aH y _) rfl);have G:=Lh (X.o.trans (y.mono X.o.size));have W:=Lh (V.o.below y);have a1:=Lh (fun c5=>oI HX.o.toOk H3.o c5);clear y E;rcases q with hb|⟨hb,a3⟩|⟨hb,a3⟩;case inr.inr=>
   (repeat revert K);refine vS ?_;intro K hK K hK K hK K hK;refine (a1.o _).mono ?_;rintro e4 w4 ⟨rfl,z⟩;have b4:=z.dec.cell;have b9:=z.dec.frozen;have Z:=Lh z;clear z;(repeat revert K);refine vS ?_;intro K hK K hK;refine Qk [6] fun f=>?_;exact s.o (by rw [p.o,aY ⟨(by have:(F:Int)=65533:=(by simpa using hb);omega),(by have:(i:Int)=1:=(by simpa using a3);omega)⟩]) f _ _ Z.o.err (a0.o.trans Z.o.stp)
  all_goals
   have I:Hx (bL d=if bW F then cP S (l.drop i) else false):=by
    have:=p.o;rw [aQ (by intro h;simp_all)] at this;exact this
   have P:=Lh (J7 F w3);(repeat revert K);refine vS ?_;intro K hK K hK K hK;refine P.o.mono ?_;rintro e4 w4 ⟨rfl,rfl⟩;by_cases t:bW F=true
   ·rw [t];have HN:=Lh (show bL d=cP S (l.drop i) by rw [I.o,aY t]);clear t P;(repeat revert K);refine vS ?_;intro K hK;refine Kk [0,26,27] fun f=>?_;refine b3.o _ _ ⟨(l.drop i).length,by rw [HM.o,eC];omega,HJ.o _ _ _ ?_⟩;by_cases a7:cp=i
    ·have a9:l.drop i=[]:=tW (by omega);have c2:l.length-i=0:=by omega
     refine ⟨f,T,[],cp-i,S,?_,G.o,fun j hj=>absurd hj (by simp),jU _,by omega,jU _,?_,by rw [a9]⟩
     ·rw [aY a7,c2];rfl
     ·rw [HN.o,a9]
    ·refine ⟨f,T+i,l.drop i,cp-i,S,?_,G.o,W.o.drop i,by rw [eC];omega,by omega,by have:=HK.o;rw [eC];omega,HN.o,rfl⟩;rw [aQ a7,eC]
   ·have u:bW F=false:=by simpa using t
    rw [u];have HN:=Lh (show bL d=false by rw [I.o,u];rfl);clear t u P;(repeat revert K);refine vS ?_;intro K hK K hK K hK;refine (a1.o _).mono ?_;rintro e4 w4 ⟨rfl,z⟩;have b4:=z.dec.cell;have b9:=z.dec.frozen;have Z:=Lh z;clear z;(repeat revert K);refine vS ?_;intro K hK;refine Qk [6] fun f=>?_;exact s.o HN.o f _ _ Z.o.err (a0.o.trans Z.o.stp)
def pY (x:Cx) (c:DC) (q:Option UInt8) (f:Bool) (w':World) (v':DV) (h:Ending):Except EK (Bs×Bs)→Prop
 | .error k=>h=.returned (.slice none 0 0)∧iQ x c w' v' k
 | .ok (d,r)=>∃ g a e b,h=.returned (.slice (some ⟨g,0,none⟩) d.length a)∧cA x c w' v' r e b∧v'.bufv=.slice (some ⟨g,0,none⟩) b.length a∧d=b.take d.length∧d.length≤b.length∧(q=none→f=false→r=[]→e=some (mM x.o.fails))∧(f=true→v'.nb=-1)
structure rS (x:Cx) (c:DC):Prop where
 ent:c.ent=.map none
 ents:x.o.ents=none
def X9 (x:Cx) (c:DC) (w0:World) (v0:DV) (q:Option UInt8) (g:Bool) (b:Bs) (k:Nat) (a:Act) (w:World):Prop:=
 ∃ f v rest e b0 b1 d,a=fr 381 f [(0,bT x),(1,.int .i64 (qI q)),(2,.bool g),(7,.int .u8 (UInt8.toNat b0)),(8,.int .u8 (UInt8.toNat b1)),(9,.int .i64 0)]∧cA x c w v rest e d∧cN x w0 v0 w v∧k=rest.length ∧
  bF x.o q g b 0 0 []=bF x.o q g rest b0 b1 d∧(cS v∨(q=none∧b0=0∧b1=0∧rest=b))∧d.length+8*rest.length≤8*b.length∧XW b0 b1 d
theorem GC (x:Cx) (U:x.All) (c:DC) (H:hY x c) (P:rS x c) (q:Option UInt8) (a:Bool) (w:World) (v:DV) (rest:Bs) (e:Option EK) (F:Bs) (h:cA x c w v rest e F)
  (hq:q≠none→cS v) (hc:q=none→a=false→∃ b r,rest=b::r∧b≠60) :
  Calls prog 64 #[bT x,.int .i64 (qI q),.bool a] w fun en w'=>∃ v',cN x w v w' v'∧pY x c q a w' v' en (bF x.o q a rest 0 0 []):=by
 have S:=Lh (oU x U.toOk c w v rest e F h);have ⟨Y,HD,t,HQ,HC⟩:=pM U H P hq hc;have W:=Lh (show rest.length≤1000000000 from fQ (h.suf.length_le) U.len);clear h U H P hq hc;refine eL 381 func64 [_,_,_] fun f=>?_;simp only [aF];refine vg ?_;intro K hK K hK;refine S.o.mono ?_;rintro e1 w1 ⟨rfl,v1,T,a9,i,N,b6⟩;have H1:=Lh T;have X:=Lh (cN.ofS0 N i);have V:=Lh i;clear T a9 i N b6 S;(repeat revert K);refine vS ?_;intro K hK;refine cG [0,1,2,7,8,9] fun f=>?_;have hz:XW 0 0 []:=⟨fun h=>absurd h (by decide),fun h=>absurd h.1 (by decide)⟩;have o:cS v1∨(q=none∧(0:UInt8)=0∧(0:UInt8)=0∧rest=rest):=by
  cases q with
  | none=>exact aU ⟨rfl,rfl,rfl,rfl⟩
  | some qb=>exact aG ((HQ.o (by simp)).of_iff V.o)
 refine wp_loop_ghost_k (X9 x c w v q a rest) rest.length ⟨f,v1,rest,e,0,0,[],rfl,H1.o,X.o,rfl,rfl,o,by simp,hz⟩ ?_;rintro k _ w2 ⟨f,v2,r2,e2,b0,b1,E,rfl,h2,m,a8,b5,O,b7,G⟩ J K2 hJ aC;refine wp_block ?_;have M:E.length≤8000000000000:=by have:=W.o;omega
 have d:sY x c w2 v2 q a (Exit.inBlock 1 (Exit.then K2 (Exit.inBlock 0 (Exit.then K (Exit.noGoto (bodyPost prog Tryz.f64 fun en w'=>∃ v',cN x w v w' v'∧pY x c q a w' v' en (bF x.o q a rest 0 0 []))))))) (iT x.o q a r2 b0 b1 E):=by
  have p:bF x.o q a rest 0 0 []=_:=b5.trans (GB x.o q a r2 b0 b1 E);refine ⟨fun k s f w' v' hE A=>?_,fun n B e' l s f w' v' hR A hN a1=>?_,fun B C D l s e' a7 f w' v' hR A hN=>?_⟩
  ·simp only [Exit.inBlock,Exit.then,Exit.noGoto];refine cM ?_;refine ⟨v',m.trans A,?_⟩;rw [p,s];exact ⟨rfl,hE⟩
  ·show K _ _;obtain ⟨bA,a4,I,b4⟩:=DK s G;have a0:cS v':=by
    rcases O with h|⟨Q,h0,T,R⟩
    ·exact hN h
    ·obtain ⟨a6,z⟩:=b4 ⟨h0,T⟩ Q;obtain ⟨bb,rr,i,a3⟩:=HC.o Q a6;rcases z with z|⟨r4,z⟩
     ·rw [R,i] at z;cases z
     ·rw [R,i] at z;cases z;exact absurd rfl a3
   refine hK _ _ (bB (RY x Y.o c w' v' B e' l n hR a0 bA (by rw [a4];omega) _ ?_ ?_ f) (by kernel_rfl))
   ·intro y g Z a5 f w3 a2 u;simp only [Exit.inBlock,Exit.then,Exit.noGoto];refine cM ?_;refine ⟨v',(m.trans A).trans u,?_⟩;rw [p,s];show pY _ _ _ _ _ _ _ (sX n B l);unfold sX;rw [aY y];have j:(l.take (l.length-n)).length=l.length-n:=by rw [pI];omega
    exact ⟨g,Z,e',l,by rw [j],a2,a5,by rw [j],by rw [j];omega,I,a1⟩
   ·intro y f w3 v3 aA u;simp only [Exit.inBlock,Exit.then,Exit.noGoto];refine cM ?_;refine ⟨v3,(m.trans A).trans u,?_⟩;rw [p,s];show pY _ _ _ _ _ _ _ (sX n B l);unfold sX;rw [y];exact ⟨rfl,aA⟩
  ·obtain ⟨bC,b9,b3⟩:=KT t.o.ents s G
   have L:K2 (fr 381 f [(0,bT x),(1,.int .i64 (qI q)),(2,.bool a),(7,.int .u8 C.toNat),(8,.int .u8 D.toNat),(9,.int .i64 0)]) w':=
    aC _ _ ⟨B.length,by rw [a8];exact bC,hJ _ _ _ ⟨f,v',B,none,C,D,l,rfl,hR,m.trans A,rfl,by rw [p,s],aG hN,by omega,b3⟩⟩
   rcases a7 with rfl|rfl
   ·exact L
   ·exact L
 cases r2 with
 | nil=>exact bB (zH x Y.o c HD.o q a w2 v2 e2 E b0 b1 h2 _ d f) (by kernel_rfl)
 | cons b r3=>exact bB (xR x Y.o c HD.o t.o.ent t.o.ents q a w2 v2 e2 b r3 E b0 b1 h2 (O.imp id (fun h=>⟨h.2.1,h.2.2.1⟩)) M _ d f) (by kernel_rfl)
abbrev XX (v:Value):Value:=.iface 122 v
def DL (x:Cx) (c:DC) (w':World) (v':DV) (f:Ending):Except EK (Bs×Bs)→Prop
 | .error k=>f=.returned (.tuple #[.nilIface,v'.err])∧iQ x c w' v' k
 | .ok (d,r)=>∃ g a e b,f=.returned (.tuple #[XX (.slice (some ⟨g,0,none⟩) d.length a),.nilIface])∧cA x c w' v' r e b∧v'.bufv=.slice (some ⟨g,0,none⟩) b.length a∧d=b.take d.length∧d.length≤b.length∧(r=[]→e=some (mM x.o.fails))
theorem N5 (w:World):(binOp .eql 81 (.slice none 0 0) (.slice none 0 0)).run prog w=.ok (.bool true) w:=by kernel_rfl
theorem GD (a:Addr) (l c:Nat) (w:World):(binOp .eql 81 (.slice (some a) l c) (.slice none 0 0)).run prog w=.ok (.bool false) w:=by kernel_rfl
theorem RZ (x:Cx) (W:x.All) (c:DC) (p:hY x c) (F:rS x c) (aA:c.needClose=false) (w:World) (v:DV) (b:UInt8) (r:Bs) (o:Bs) (T:b≠60) (h:cA x c w v (b::r) none o) :
  Calls prog 35 #[bT x] w fun en w'=>∃ v',cN x w v w' v'∧DL x c w' v' en (bF x.o none false (b::r) 0 0 []):=by
 have hg:=Lh (oB x W.toOk c p w v b r none o h);have t:=Lh h.suf;have ⟨X,HD,P,HB⟩:=kS W p F T;have hc:=h.dec.cell;have hf:=h.dec.frozen;have he:v.err=.nilIface:=h.err;have z:=eS T (n:=60) rfl;have U:((b.toNat:Int) != 60)=true:=by simpa using z
 clear h W p F T;refine eL 731 func35 [_] fun f=>?_;simp only [aF];refine vg ?_;intro K hK K hK;refine hg.o.mono ?_;rintro e1 w1 ⟨rfl,v1,Y,E,u,C,_⟩;have I:=Lh (gG x X.o.toOk c w1 v1 b r _ Y E t.o);have Q:=Lh (C.stp u);clear Y E u C hg hc hf;(repeat revert K);refine vS ?_;intro K hK K hK K hK;refine I.o.mono ?_;rintro e2 w2 ⟨rfl,v2,Z,_,y,D,_⟩;have H:=Lh (GC x X.o c HD.o P.o none false w2 v2 (b::r) none o Z (fun h=>absurd rfl h) (fun _ _=>⟨b,r,rfl,HB.o⟩));have R:=Lh (Q.o.s0 D y);clear Z y D I he;(repeat revert K);refine vS ?_;intro K hK K hK K hK;rw [show (-1:Int)=qI none from rfl];refine H.o.mono ?_;rintro e3 w3 ⟨v3,G,L⟩;have s:=Lh (R.o.trans G);clear G H;cases i:bF x.o none false (b::r) 0 0 [] with
 | error k=>
  rw [i] at L;obtain ⟨rfl,J⟩:=L;have hc:=J.dec.cell;have hf:=J.dec.frozen;have ⟨O,j⟩:=cB J i;clear J i;have q1:=fun w=>N5 w;(repeat revert K);refine vS ?_;intro K hK K hK K hK;refine cG [0] fun f=>?_;go_quiet (fail);(repeat revert K);refine vg ?_;intro K hK K hK;refine kW ?_;refine ⟨v3,s.o.trans (cN.drewN _),?_⟩;rw [j.o];exact ⟨rfl,⟨bM O.o.base _,O.o.dec,O.o.err⟩⟩
 | ok dr=>
  obtain ⟨d,r'⟩:=dr;rw [i] at L;obtain ⟨g,S,e,b',rfl,hR,A,B,V,m,_⟩:=L;have ⟨HR,M,N,q,j⟩:=pM hR A B m i;clear hR A B m i;have q1:=fun a l c w=>GD a l c w;(repeat revert K);refine vS ?_;intro K hK;refine kW ?_;refine ⟨v3,s.o,?_⟩;rw [j.o];exact ⟨g,S,e,b',rfl,HR.o,M.o,N.o,V,q.o rfl rfl⟩
theorem VR (x:Cx) (c:DC) (w:World) (v:DV) (h:bR w x.d c v) (t:TypeId) (u:Value) (b:v.err=.iface t u) :
  Calls prog 35 #[bT x] w fun a w'=>a=.returned (.tuple #[.nilIface,v.err])∧∃ k,w'=w.drewN k:=by
 have d:=h.cell;have e:=h.frozen;clear h;refine eL 731 func35 [_] fun f=>?_;simp only [aF];refine vg ?_;intro K hK K hK;refine cG [0] fun f=>?_;go_quiet (fail);(repeat revert K);refine vg ?_;intro K hK;refine kW ?_;exact ⟨by rw [b],_,rfl⟩
end Go.Proofs.YthapcchcahnfaaaGreatDoor
