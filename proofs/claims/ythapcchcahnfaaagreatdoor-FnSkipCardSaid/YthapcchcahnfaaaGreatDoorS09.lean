/- Part of the proof that laws.FnSkip returns true for every argument. No conditions. -/
import Derived.Test.YthapcchcahnfaaaGreatDoorS04
import Derived.Test.YthapcchcahnfaaaGreatDoorS08
import Derived.Test.YthapcchcahnfaaaGreatDoorS05
import Derived.Test.YthapcchcahnfaaaGreatDoorS06
import Derived.Test.YthapcchcahnfaaaGreatDoorS07
import Derived.Lib.IndexBytes
import Derived.Deep.LoopGhost
import Derived.LaidEql
import Derived.Lib.BufferWrite
import Derived.Shelf.Spec.DecodeRune
set_option linter.all false
set_option maxHeartbeats 8000000
set_option maxRecDepth 100000
namespace Go.Proofs.YthapcchcahnfaaaGreatDoor
open Go Go.RowKit Go.Proofs.Tryz
def nD (x:Cx) (w:World) (d:Bs):Prop:=
 ∃ (r q n:Nat) (c:Int) (a:Array Value) (s:ByteArray) (b:Bs),
  aL w x.br (iP x r q .nilIface c) 235∧aL w x.rb a 5∧a.size=4096∧aL w x.rd (tZ x s n) 56∧r≤q∧q≤4096∧b.length=q-r ∧
  (∀ j,j<b.length→a[r+j]?=some (.int .u8 (b.getD j 0).toNat))∧d=b++s.data.toList∧n+s.size≤1000000000
def Cx.Sio (x:Cx) (k:Nat):Prop:=k=x.br∨k=x.rb∨k=x.rd
theorem nD.mod {x:Cx} {w w':World} {i:Bs} {S:Nat→Prop} (h:nD x w i) (g:aJ S w w') (j:¬ S x.br) (k:¬ S x.rb) (l:¬ S x.rd):nD x w' i:=by
 obtain ⟨r,q,n,m,f,s,o,a,b,c,d,e⟩:=h;exact ⟨r,q,n,m,f,s,o,a.mod g j,b.mod g k,c,d.mod g l,e⟩
theorem MY (x:Cx) (t:x.Ok) (w:World) (r q n:Nat) (L:Int) (c:Array Value) (s:ByteArray) (b:UInt8) (o:Bs)
  (d:aL w x.br (iP x r q .nilIface L) 235) (g:aL w x.rb c 5) (B:c.size=4096) (l:aL w x.rd (tZ x s n) 56)
  (J:r<q) (G:q≤4096) (C:(b::o).length=q-r) (f:∀ j,j<(b::o).length→c[r+j]?=some (.int .u8 ((b::o).getD j 0).toNat)) (A:n+s.size≤1000000000) :
  Calls prog 186 #[.pointer (some ⟨x.br,0,none⟩)] w fun e w'=>e=.returned (.tuple #[.int .u8 b.toNat,.nilIface])∧nD x w' (o++s.data.toList)∧aJ x.Sio w w'∧w'.heap.size=w.heap.size:=by
 have N:=d.cell;have O:=d.frozen;have M:w.cell? ⟨x.rb,r,none⟩=some (.int .u8 b.toNat):=by rw [g.cell];have:=f 0 (by simp);simpa using this
 have H:((r:Int)==(q:Int))=false:=by simp;omega
 have I:(r:Int)<4096:=by omega
 have D:¬ x.br=x.rb:=t.ne4;have a:¬ x.rb=x.br:=fun h=>t.ne4 h.symm;have F:=Lib.hid t;have z:=Lib.hid l;have y:=Lib.hid g;have u:=Lib.hid d;have v:=Lib.hid f;have E:=Lib.hid C;clear t l g d f C;go_enter func186,ntmps186
 go_wp2;refine wp_loop_once ?_;go_wp2;go_quiet (fail);go_wp2;go_quiet (fail);go_wp2;go_ret2
 have k:aL ((((w.setCell ⟨x.br,6,none⟩ (.int .i64 (-1))).setCell ⟨x.br,2,none⟩ (.int .i64 ((r:Int)+1))).setCell ⟨x.br,5,none⟩ (.int .i64 b.toNat))) x.br (iP x (r+1:Nat) q .nilIface b.toNat) 235:=by
  have:=((u.out.set 6 (.int .i64 (-1))).set 2 (.int .i64 ((r:Int)+1))).set 5 (.int .i64 b.toNat);rw [show (((r+1:Nat):Int))=(r:Int)+1 from by omega];exact this
 have i:aJ x.Sio w (((w.setCell ⟨x.br,6,none⟩ (.int .i64 (-1))).setCell ⟨x.br,2,none⟩ (.int .i64 ((r:Int)+1))).setCell ⟨x.br,5,none⟩ (.int .i64 b.toNat)):=
  (((aJ.refl x.Sio w).setCell (p:=⟨x.br,6,none⟩) (aG (aG rfl)) _).setCell (p:=⟨x.br,2,none⟩) (aG (aG rfl)) _).setCell (p:=⟨x.br,5,none⟩) (aG (aG rfl)) _
 have m:wrap64 (b.toNat:Int)=b.toNat:=by have:=UInt8.toNat_lt b;unfold wrap64;omega
 try simp only [m]
 refine ⟨rfl,⟨r+1,q,n,b.toNat,c,s,o,k,?_,B,?_,by omega,G,?_,?_,rfl,A⟩,⟨i.os,i.tape,i.output,i.size,i.block⟩,by simp [World.setCell]⟩
 ·exact ((y.out.set_ne a _).set_ne a _).set_ne a _
 ·have h:x.rd≠x.br:=fun h=>F.out.ne5 h.symm;exact ((z.out.set_ne h _).set_ne h _).set_ne h _
 ·have:=E.out;simp at this;omega
 ·intro j P;have:=v.out (j+1) (by simp;omega);rw [show r+1+j=r+(j+1) by omega];simpa using this
theorem Q7 (x:Cx) (j:x.Ok) (w:World) (h:Below x.B x.W0 w) (q n:Nat) (g:Int) (a:Array Value) (s:ByteArray) (i:s.toList.isEmpty=false)
  (b:aL w x.br (iP x q q .nilIface g) 235) (c:aL w x.rb a 5) (f:a.size=4096) (d:aL w x.rd (tZ x s n) 56)
  (o:q≤4096) (m:n+s.size≤1000000000) :
  Calls prog 187 #[.pointer (some ⟨x.br,0,none⟩)] w fun e w'=>e=.returned (.tuple #[])∧sN x w s n a g w':=by
 by_cases l:q=0
 ·subst l;exact FL x j w h n s i a d c f (by omega) (by omega) g b
 ·by_cases k:q=4096
  ·subst k;exact FM x j w h n s i a d c f (by omega) (by omega) g b
  ·exact FN x j w h n s i a d c f (by omega) (by omega) g q (by omega) k o b
theorem FR (x:Cx) (g:x.Ok) (w:World) (d:Below x.B x.W0 w) (q n:Nat) (c:Int) (s:ByteArray) (f:s.toList.isEmpty=true)
  (a:aL w x.br (iP x q q .nilIface c) 235) (b:aL w x.rd (tZ x s n) 56) (j:q≤4096) :
  Calls prog 187 #[.pointer (some ⟨x.br,0,none⟩)] w fun e w'=>e=.returned (.tuple #[])∧wD x w c w':=by
 by_cases i:q=0
 ·subst i;exact JW x g w d n s f b c a
 ·by_cases h:q=4096
  ·subst h;exact JY x g w d n s f b c a
  ·exact JX x g w d n s f b c q (by omega) h j a
theorem sP (s:ByteArray) (m:Nat):(s.extract m s.size).data.toList=s.data.toList.drop m:=Lib.extract_to_end s m
theorem FS (l:Bs) (j:Nat) (h:j<l.length):(kX l)[j]?=some (.int .u8 (l.getD j 0).toNat):=by
 simp [kX,List.getD,h]
theorem Q8 (l:Bs) (r:List Value) (j:Nat) (h:j<l.length):((kX l++r).toArray:Array Value)[j]?=some (.int .u8 (l.getD j 0).toNat):=by
 rw [List.getElem?_toArray,List.getElem?_append_left (by simpa [kX] using h),FS l j h]
theorem Q9 (x:Cx) (r:x.Ok) (w:World) (U:Below x.B x.W0 w) (q n:Nat) (lb:Int) (g:Array Value) (s:ByteArray) (b:UInt8) (un:Bs) (Y:s.data.toList=b::un)
  (l:aL w x.br (iP x q q .nilIface lb) 235) (I:aL w x.rb g 5) (Z:g.size=4096) (J:aL w x.rd (tZ x s n) 56)
  (hq:q≤4096) (X:n+s.size≤1000000000) :
  Calls prog 186 #[.pointer (some ⟨x.br,0,none⟩)] w fun e w'=>e=.returned (.tuple #[.int .u8 b.toNat,.nilIface])∧nD x w' un∧aJ x.Sio w w'∧w'.heap.size=w.heap.size:=by
 have hc:=l.cell;have hf:=l.frozen;have a6:((q:Int)==(q:Int))=true:=by simp
 have L:s.toList.isEmpty=false:=by
  have:s.toList=s.data.toList:=by simp [ByteArray.toList_eq]
  rw [this,Y];rfl
 obtain ⟨W,t⟩:∃ W,W=w.setCell ⟨x.br,6,none⟩ (.int .i64 (-1)):=⟨_,rfl⟩;have B:aJ x.Sio w W:=by rw [t];exact (aJ.refl x.Sio w).setCell (p:=⟨x.br,6,none⟩) (aG (aG rfl)) _
 have u:aL W x.br (iP x q q .nilIface lb) 235:=by rw [t];exact l.set 6 _
 have y:aL W x.rb g 5:=by rw [t];exact I.set_ne (fun h=>r.ne4 h.symm) _
 have A:aL W x.rd (tZ x s n) 56:=by rw [t];exact J.set_ne (fun h=>r.ne5 h.symm) _
 have F:Below x.B x.W0 W:=aJ.below U U.size B (fun i hi=>by rcases hi with h|h|h<;>subst h;exact r.br;exact r.rb;exact r.rd);have N:W.heap.size=w.heap.size:=by rw [t];simp [World.setCell]
 have d:=Lib.hid (fun k=>Q7 x r (W.drewN k) (bM F k) q n lb g s L u y Z A hq X);have a0:=Lib.hid (fun (w:World)=>MY x r w);rw [t] at d;have R:=Lib.hid r;have HS:=Lib.hid Y;have HW:=Lib.hid t;have Q:=Lib.hid B;have S:=Lib.hid N;clear r U J I l Y L B u y A F N t;go_enter func186,ntmps186
 go_wp2;refine wp_loop_rounds 2 ?_;rw [rounds_succ];go_wp2;go_quiet (fail);go_wp2_with fail;obtain ⟨P,H⟩:∃ P,P=nq:=⟨_,rfl⟩;rw [←H];clear H;refine (d.out P).mono ?_;rintro e w1 ⟨rfl,m,m1,m2,m3,a,f,⟨n',a5,z⟩,hm,hz⟩;have a3:=a.cell;have a4:=a.frozen;have o:s.data.toList.length=s.size:=rfl;have a2:w1.cell? ⟨x.rb,0,none⟩=some (.int .u8 b.toNat):=by
  rw [f.cell];rw [HS.out];obtain ⟨O,rfl⟩:∃ O,m=O+1:=⟨m-1,by omega⟩;simp [kX]
 have a7:((0:Int)==(m:Int))=false:=by simp;omega
 have a8:(m:Int)≤4096:=by omega
 have a1:¬ x.br=x.rb:=R.out.ne4;have v:¬ x.rb=x.br:=fun h=>R.out.ne4 h.symm;have C:=Lib.hid a;have D:=Lib.hid f;have E:=Lib.hid z;have HM:=Lib.hid hm;have HZ:=Lib.hid hz;clear a f z hm hz d hc hf;go_wp2;rw [rounds_succ];go_wp2;go_quiet (fail);go_wp2;go_quiet (fail);go_wp2;go_ret2
 have M:wrap64 (b.toNat:Int)=b.toNat:=by have:=UInt8.toNat_lt b;unfold wrap64;omega
 try simp only [M]
 have G:=(C.out.set 2 (.int .i64 1)).set 5 (.int .i64 b.toNat);have T:aJ x.Sio w w1:=(Q.out.drewN P).trans (by rw [HW.out];exact HM.out) (fun _ _ h=>h)
 have c:aJ x.Sio w ((w1.setCell ⟨x.br,2,none⟩ (.int .i64 1)).setCell ⟨x.br,5,none⟩ (.int .i64 b.toNat)):=
  (T.setCell (p:=⟨x.br,2,none⟩) (aG (aG rfl)) _).setCell (p:=⟨x.br,5,none⟩) (aG (aG rfl)) _
 have aA:un=(s.data.toList.take m).tail++(s.extract m s.size).data.toList:=by
  rw [sP,HS.out];obtain ⟨O,rfl⟩:∃ O,m=O+1:=⟨m-1,by omega⟩;simp
 have aC:w1.heap.size=w.heap.size:=HZ.out.trans (by rw [←HW.out];exact S.out);have o:s.data.toList.length=s.size:=rfl;refine ⟨rfl,⟨1,m,n',b.toNat,_,s.extract m s.size,(s.data.toList.take m).tail,G,(D.out.set_ne v _).set_ne v _,?_,?_,m1,m2,?_,?_,aA,?_⟩,⟨c.os,c.tape,c.output,c.size,c.block⟩,by simp [World.setCell];exact aC⟩
 ·simp [kX,o];omega
 ·have h:x.rd≠x.br:=fun h=>R.out.ne5 h.symm;exact (E.out.set_ne h _).set_ne h _
 ·simp [o];omega
 ·intro j hj;have hl:(s.data.toList.take m).length=m:=by rw [pI,o];omega
  have V:1+j<(s.data.toList.take m).length:=by
   simp only [List.length_tail] at hj;omega
  rw [Q8 _ _ _ V]
  congr 3
  rw [List.getD,List.getD,List.getElem?_tail,Nat.add_comm 1 j]
 ·have:(s.extract m s.size).size=s.size-m:=by simp
  omega
theorem VA (x:Cx) (y:x.Ok) (w:World) (V:Below x.B x.W0 w) (q n:Nat) (O:Int) (b:Array Value) (s:ByteArray) (Y:s.data.toList=[])
  (g:aL w x.br (iP x q q .nilIface O) 235) (H:aL w x.rb b 5) (Z:b.size=4096) (J:aL w x.rd (tZ x s n) 56)
  (hq:q≤4096) (X:n+s.size≤1000000000) :
  Calls prog 186 #[.pointer (some ⟨x.br,0,none⟩)] w fun e w'=>e=.returned (.tuple #[.int .u8 0,pJ x])∧nD x w' []∧aJ x.Sio w w'∧w'.heap.size=w.heap.size:=by
 have hc:=g.cell;have hf:=g.frozen;have a1:((q:Int)==(q:Int))=true:=by simp
 have M:s.toList.isEmpty=true:=by
  have:s.toList=s.data.toList:=by simp [ByteArray.toList_eq]
  rw [this,Y];rfl
 obtain ⟨W,m⟩:∃ W,W=w.setCell ⟨x.br,6,none⟩ (.int .i64 (-1)):=⟨_,rfl⟩;have z:aJ x.Sio w W:=by rw [m];exact (aJ.refl x.Sio w).setCell (p:=⟨x.br,6,none⟩) (aG (aG rfl)) _
 have o:aL W x.br (iP x q q .nilIface O) 235:=by rw [m];exact g.set 6 _
 have r:aL W x.rb b 5:=by rw [m];exact H.set_ne (fun h=>y.ne4 h.symm) _
 have f:aL W x.rd (tZ x s n) 56:=by rw [m];exact J.set_ne (fun h=>y.ne5 h.symm) _
 have D:Below x.B x.W0 W:=aJ.below V V.size z (fun i hi=>by rcases hi with h|h|h<;>subst h;exact y.br;exact y.rb;exact y.rd);have N:W.heap.size=w.heap.size:=by rw [m];simp [World.setCell]
 have d:=Lib.hid (fun k=>FR x y (W.drewN k) (bM D k) q n O s M o f hq);rw [m] at d;have HX:=Lib.hid y;have HS:=Lib.hid Y;have S:=Lib.hid m;have P:=Lib.hid z;have T:=Lib.hid N;have Q:=Lib.hid r;have R:=Lib.hid f;have l:(∃ u t,pJ x=.iface u t):=by unfold pJ;split<;>exact ⟨_,_,rfl⟩
 obtain ⟨u,t,l⟩:=l;have C:=Lib.hid l;clear y V J H g Y M z o r f D N m l;go_enter func186,ntmps186
 go_wp2;refine wp_loop_rounds 2 ?_;rw [rounds_succ];go_wp2;go_quiet (fail);go_wp2_with fail;obtain ⟨A,G⟩:∃ A,A=nq:=⟨_,rfl⟩;rw [←G];clear G;refine (d.out A).mono ?_;rintro e w1 ⟨rfl,a,F,hz⟩;rw [C.out] at a;have aC:=a.cell;have a0:=a.frozen;have a2:((0:Int)==(0:Int))=true:=by simp
 have B:=Lib.hid a;have HM:=Lib.hid F;have HZ:=Lib.hid hz;clear a F hz d hc hf;go_wp2;rw [rounds_succ];go_wp2;go_quiet (fail);go_wp2;go_ret2
 have E:=B.out.set 4 .nilIface;have U:aJ x.Sio w w1:=(P.out.drewN A).trans (by rw [S.out];exact HM.out) (fun _ _ h=>aG h);have c:aJ x.Sio w (w1.setCell ⟨x.br,4,none⟩ .nilIface):=U.setCell (p:=⟨x.br,4,none⟩) (aG (aG rfl)) _;have aA:w1.heap.size=w.heap.size:=HZ.out.trans (by rw [←S.out];exact T.out);have F:aJ (fun k=>k=x.br) (W.drewN A) w1:=by rw [S.out];exact HM.out
 have h1:x.rb≠x.br:=fun h=>HX.out.ne4 h.symm;have h2:x.rd≠x.br:=fun h=>HX.out.ne5 h.symm;have I:aL w1 x.rb b 5:=(show aL (W.drewN A) _ _ _ from Q.out).mod F h1;have L:aL w1 x.rd (tZ x s n) 56:=(show aL (W.drewN A) _ _ _ from R.out).mod F h2;refine ⟨congrArg (fun v=>Ending.returned (.tuple #[.int .u8 0,v])) C.out.symm,⟨0,0,n,O,b,s,[],E,I.set_ne h1 _,Z,L.set_ne h2 _,by omega,by omega,rfl,(fun j hj=>by simp at hj),by rw [HS.out];rfl,X⟩,⟨c.os,c.tape,c.output,c.size,c.block⟩,by simp [World.setCell];exact aA⟩
theorem y7 (x:Cx) (t:x.Ok) (w:World) (v:Below x.B x.W0 w) (b:UInt8) (m:Bs) (h:nD x w (b::m)) :
  Calls prog 186 #[.pointer (some ⟨x.br,0,none⟩)] w fun e w'=>e=.returned (.tuple #[.int .u8 b.toNat,.nilIface])∧nD x w' m∧aJ x.Sio w w'∧w'.heap.size=w.heap.size:=by
 obtain ⟨r,q,n,u,c,s,o,d,g,j,i,y,p,l,k,a,f⟩:=h;cases o with
 | nil=>
  have:r=q:=by simp at l;omega
  subst this;exact Q9 x t w v r n u c s b m (by simpa using a.symm) d g j i p f
 | cons b' o=>
  simp at a;obtain ⟨rfl,rfl⟩:=a;exact MY x t w r q n u c s b o d g j i (by simp at l;omega) p l k f
theorem BH (x:Cx) (u:x.Ok) (w:World) (k:Below x.B x.W0 w) (h:nD x w []) :
  Calls prog 186 #[.pointer (some ⟨x.br,0,none⟩)] w fun e w'=>e=.returned (.tuple #[.int .u8 0,pJ x])∧nD x w' []∧aJ x.Sio w w'∧w'.heap.size=w.heap.size:=by
 obtain ⟨r,q,n,v,b,s,y,c,f,i,g,p,o,m,l,j,d⟩:=h;have a:=j.symm;simp only [List.append_eq_nil_iff] at a;obtain ⟨rfl,t⟩:=a;have:r=q:=by simp at m;omega
 subst this;exact VA x u w k r n v b s t c f i g o d
def wZ (x:Cx) (v:Value):Option EK→Prop
 | none=>v=.nilIface
 | some .eof=>v=x.eofV
 | some .own=>v=y6
 | some .syn=>∃ a,v=.iface 113 (.pointer (some a))
 | some .other=>∃ a:Addr,v=.iface 196 (.pointer (some a))∧x.B≤a.block
def lY (x:Cx) (w:World) (v:Value) (a:Bs):Prop:=
 (v=.slice none 0 0∧a=[]) ∨
 ∃ g b c,v=.slice (some ⟨g,0,none⟩) a.length b∧aL w g c 5∧c.size=b∧a.length≤b∧b≤9223372036854775807 ∧
  x.B≤g∧¬ x.S0 g∧∀ j,j<a.length→c[j]?=some (.int .u8 (a.getD j 0).toNat)
def dU:Value→Nat→Prop
 | .slice (some a) _ _,k=>k=a.block
 | _,_=>False
def nF (x:Cx) (v:DV) (rest:Bs):Prop:=
 ∃ pre,x.T=pre++rest∧v.off=pre.length∧v.line=oN pre∧(v.nb≠10→v.lstart=(pre.length:Int)+1-uT pre)∧(v.nb=10→v.lstart=(pre.length:Int)+1)
structure cA (x:Cx) (c:DC) (w:World) (v:DV) (rest:Bs) (e:Option EK) (buf:Bs):Prop where
 base:Below x.B x.W0 w
 dec:bR w x.d c v
 inp:∃ a,nD x w a∧((v.nb=-1∧rest=a)∨∃ b:UInt8,v.nb=b.toNat∧rest=b::a)
 pos:nF x v rest
 err:wZ x v.err e
 fin:e=none∨(e=some (mM x.o.fails)∧rest=[])
 bf:lY x w v.bufv buf
structure hY (x:Cx) (c:DC):Prop where
 r:c.r=.iface 171 (.pointer (some ⟨x.br,0,none⟩))
 strict:c.strict=x.o.strict
structure iQ (x:Cx) (c:DC) (w:World) (v:DV) (k:EK):Prop where
 base:Below x.B x.W0 w
 dec:bR w x.d c v
 err:wZ x v.err (some k)
def Cx.S1 (x:Cx) (v:DV) (k:Nat):Prop:=x.S0 k∨dU v.bufv k
structure cN (x:Cx) (w:World) (v:DV) (w':World) (v':DV):Prop where
 mod:aJ (x.S1 v) w w'
 buf:∀ k,dU v'.bufv k→dU v.bufv k∨w.heap.size≤k
theorem cN.refl (x:Cx) (w:World) (v:DV):cN x w v w v:=⟨aJ.refl _ _,fun _ h=>aG h⟩
theorem cN.trans {x:Cx} {a b c:World} {u v t:DV} (h:cN x a u b v) (k:cN x b v c t):cN x a u c t:=
 ⟨h.mod.trans k.mod (fun i e d=>by
   rcases d with d|d
   ·exact aG d
   ·rcases h.buf i d with h'|h'
    ·exact aU h'
    ·omega),
  fun i e=>by
   rcases k.buf i e with h'|h'
   ·exact h.buf i h'
   ·exact aU (fQ h.mod.size h')⟩
theorem Cx.Ok.s0 {x:Cx} (a:x.Ok) {k:Nat} (h:x.S0 k):x.B≤k:=by
 rcases h with h|h|h|h<;>subst h
 ·exact a.d
 ·exact a.br
 ·exact a.rb
 ·exact a.rd
theorem lY.mod {x:Cx} {w w':World} {v:Value} {a:Bs} {S:Nat→Prop} (h:lY x w v a) (e:aJ S w w') (c:∀ k,dU v k→¬ S k):lY x w' v a:=by
 rcases h with h|⟨g,cap,arr,b,d,r⟩
 ·exact aG h
 ·exact aU ⟨g,cap,arr,b,d.mod e (c g (by rw [b];rfl)),r⟩
theorem lY.notS0 {x:Cx} {w:World} {v:Value} {b:Bs} (h:lY x w v b) (k:Nat) (a:dU v k):¬ x.S0 k:=by
 rcases h with ⟨h,_⟩|⟨g,cap,arr,d,_,_,_,_,_,c,_⟩
 ·rw [h] at a;exact a.elim
 ·rw [d] at a;have:k=g:=a;subst this;exact c
theorem cA.step {x:Cx} (s:x.Ok) {c:DC} {w w':World} {v v':DV} {rest a:Bs} {e f:Option EK} {d:Bs} (h:cA x c w v rest e d) (g:bR w' x.d c v') (o:aJ x.S0 w w')
  (l:∃ n,nD x w' n∧((v'.nb=-1∧a=n)∨∃ b:UInt8,v'.nb=b.toNat∧a=b::n)) (m:nF x v' a) (i:wZ x v'.err f) (j:f=none∨(f=some (mM x.o.fails)∧a=[]))
  (p:v'.bufv=v.bufv):cA x c w' v' a f d:=
 ⟨aJ.below h.base h.base.size o (fun _ q=>s.s0 q),g,l,m,i,j,by rw [p];exact h.bf.mod o (fun k r=>h.bf.notS0 k r)⟩
theorem aJ.stp {x:Cx} {w w':World} {v v':DV} (c:aJ x.S0 w w') (a:v'.bufv=v.bufv):cN x w v w' v':=
 ⟨c.mono (fun _ _ h=>aG h),fun k b=>aG (by rw [←a];exact b)⟩
theorem uX (pre:Bs) (b:UInt8):oN (pre++[b])=oN pre+if b=10 then 1 else 0:=by
 unfold oN;rw [List.filter_append,fP];by_cases h:b=10<;>simp [h]<;>omega
theorem rY (pre:Bs) (b:UInt8):uT (pre++[b])=if b=10 then 1 else uT pre+1:=by
 unfold uT;rw [List.reverse_append];by_cases h:b=10<;>simp [h]<;>omega
theorem FT (l:Bs):1≤oN l:=by unfold oN;omega
theorem J0 (l:Bs):oN l≤l.length+1:=by unfold oN;have:=List.length_filter_le (fun b:UInt8=>b==10) l;omega
theorem MZ (l:Bs):uT l≤l.length+1:=by
 unfold uT;have:=List.takeWhile_prefix (fun b:UInt8=>b != 10) (l:=l.reverse);have:=this.length_le;simp at this;omega
theorem nF.got {x:Cx} {v:DV} {b:UInt8} {rest:Bs} (h:nF x v (b::rest)) (c:v.nb=-1∨v.nb=b.toNat) (v':DV) (e:v'.nb=-1) (f:v'.off=v.off+1)
  (g:v'.line=if b=10 then v.line+1 else v.line) (i:v'.lstart=if b=10 then v.off+1 else v.lstart):nF x v' rest:=by
 obtain ⟨pre,j,d,k,m,_⟩:=h;refine ⟨pre++[b],by simp [j],by simp [f,d],?_,fun _=>?_,fun o=>by omega⟩
 ·rw [g,uX];by_cases a:b=10<;>simp [a,k]
 ·rw [i,rY];by_cases a:b=10
  ·simp [a,d]
  ·have l:v.nb≠10:=by
    rcases c with h|h
    ·omega
    ·intro n;apply a
     have:(b.toNat:Int)=10:=by omega
     exact UInt8.toNat_inj.1 (by simpa using (show b.toNat=10 by omega))
   rw [aQ a,aQ a,m l];simp;omega
theorem nF.put {x:Cx} {v:DV} {b:UInt8} {rest:Bs} (h:nF x v rest) (f:(b::rest) <:+ x.T) (q:v.nb=-1) (v':DV) (i:v'.nb=b.toNat) (l:v'.off=v.off-1)
  (m:v'.line=if b=10 then v.line-1 else v.line) (j:v'.lstart=v.lstart):nF x v' (b::rest):=by
 obtain ⟨pre,n,p,o,k,_⟩:=h;obtain ⟨g,d⟩:=f;have e:pre=g++[b]:=by
  have:pre++rest=(g++[b])++rest:=by rw [←n,←d];simp
  exact List.append_cancel_right this
 subst e;refine ⟨g,d.symm,by rw [l,p];simp,?_,fun a=>?_,fun a=>?_⟩
 ·rw [m,o,uX];by_cases c:b=10<;>simp [c]<;>omega
 ·rw [j,k (by omega),rY];have c:b≠10:=by
   intro c;subst c;rw [i] at a;exact a rfl
  rw [aQ c];simp;omega
 ·have c:b=10:=by
   rw [i] at a;exact UInt8.toNat_inj.1 (by simpa using (show b.toNat=10 by omega))
  rw [j,k (by omega),rY,aY c];simp
theorem CY (a:Addr) (w:World):(method 411 171 (.pointer (some a)) "ReadByte").run prog w=.ok (186,.pointer (some a)) w:=by kernel_rfl
theorem II (a:Array Value) (w:World):(callFunc 186 a).run prog w=.ok (.enter 186 a) w:=enters_of func186 (by kernel_rfl) rfl a w
theorem BI (d:Nat) (c:DC) (v:DV) (w:World) (h:bR w d c v) (a:ByteArray) :
  Calls prog 36 #[.pointer (some ⟨d,0,none⟩),.string a] w fun e w'=>e=.returned (.iface 113 (.pointer (some ⟨w.heap.size,0,none⟩))) ∧
   w'=w.alloc (.cells #[.string a,.int .i64 v.line] 152):=by
 have b:=h.cell;have f:=h.frozen;clear h;go_enter func36,ntmps36
 go_wp2;go_ret
 exact ⟨rfl,rfl⟩
theorem nF.bounds {x:Cx} (b:x.Ok) {v:DV} {rest:Bs} (h:nF x v rest):0≤v.off∧v.off≤1000000000∧1≤v.line∧v.line≤1000000001:=by
 obtain ⟨pre,a,g,f,_⟩:=h;have:=b.len;have c:pre.length≤x.T.length:=by rw [a];simp
 have d:=FT pre;have e:=J0 pre;omega
theorem RA (x:Cx) (r:x.Ok) (c:DC) (w:World) (v:DV) (b:UInt8) (rest n:Bs) (l:Bs) (h:cA x c w v (b::rest) none l) (y:nD x w n) (q:v.nb=b.toNat) (B:rest=n) :
  Calls prog 62 #[.pointer (some ⟨x.d,0,none⟩)] w fun e w'=>e=.returned (.tuple #[.int .u8 b.toNat,.bool true]) ∧
   ∃ v',cA x c w' v' rest none l∧v'.nb=-1∧v'.bufv=v.bufv∧aJ x.S0 w w'∧w'.heap.size=w.heap.size:=by
 have O:=h.dec.cell;have P:=h.dec.frozen;obtain ⟨I,J,G,H⟩:=h.pos.bounds r;have A:v.err=.nilIface:=h.err;have F:=UInt8.toNat_lt b;have Q:(b.toNat:Int) % 256=b.toNat:=by omega
 have N:(0:Int)≤(b.toNat:Int):=by omega
 have i:=Lib.hid r;have j:=Lib.hid h;have t:=Lib.hid y;have M:=Lib.hid q;have u:=Lib.hid B;obtain ⟨C,E,L,D,d,s,a⟩:=v;simp only at A q I J G H;subst A q;clear h r y B;by_cases g:b=10
 ·subst g;go_enter func62,ntmps62
  go_wp2;go_ret2
  have o:=(((j.out.dec.set 18 (.int .i64 (-1))).set 21 (.int .i64 (d+1))).set 22 (.int .i64 (a+1))).set 23 (.int .i64 (a+1));have m:=((((aJ.refl (fun k=>k=x.d) w).setCell (p:=⟨x.d,18,none⟩) (aG rfl) (.int .i64 (-1))).setCell (p:=⟨x.d,21,none⟩) (aG rfl) (.int .i64 (d+1))).setCell (p:=⟨x.d,22,none⟩) (aG rfl) (.int .i64 (a+1))).setCell (p:=⟨x.d,23,none⟩) (aG rfl) (.int .i64 (a+1));have f:aJ x.S0 w _:=m.mono (fun _ _ h=>aG h);refine ⟨rfl,⟨C,E,-1,.nilIface,d+1,a+1,a+1⟩,j.out.step i.out o f ⟨n,t.out.mod m (fun h=>i.out.ne1 h.symm) (fun h=>i.out.ne2 h.symm) (fun h=>i.out.ne3 h.symm),aG ⟨rfl,u.out⟩⟩ ?_ rfl (aG rfl) rfl,rfl,rfl,f,by simp [World.setCell]⟩;exact j.out.pos.got (aU rfl) _ rfl rfl (by simp) (by simp)
 ·have z:((b.toNat:Int)==10)=false:=by
   simp;intro h;exact g (UInt8.toNat_inj.1 (by simpa using (show b.toNat=10 by omega)))
  go_enter func62,ntmps62
  go_wp2;go_ret2
  have o:=(j.out.dec.set 18 (.int .i64 (-1))).set 23 (.int .i64 (a+1));have m:=((aJ.refl (fun k=>k=x.d) w).setCell (p:=⟨x.d,18,none⟩) (aG rfl) (.int .i64 (-1))).setCell (p:=⟨x.d,23,none⟩) (aG rfl) (.int .i64 (a+1));have f:aJ x.S0 w _:=m.mono (fun _ _ h=>aG h);refine ⟨rfl,⟨C,E,-1,.nilIface,d,s,a+1⟩,j.out.step i.out o f ⟨n,t.out.mod m (fun h=>i.out.ne1 h.symm) (fun h=>i.out.ne2 h.symm) (fun h=>i.out.ne3 h.symm),aG ⟨rfl,u.out⟩⟩ ?_ rfl (aG rfl) rfl,rfl,rfl,f,by simp [World.setCell]⟩;exact j.out.pos.got (aU rfl) _ rfl rfl (by simp [g]) (by simp [g])
theorem M0 {b:UInt8} (h:b≠10):((b.toNat:Int)==10)=false:=by
 simp;intro a;exact h (UInt8.toNat_inj.1 (by simpa using (show b.toNat=10 by omega)))
theorem RB (x:Cx) (D:x.Ok) (c:DC) (B:hY x c) (w:World) (v:DV) (b:UInt8) (rest:Bs) (A:Bs) (h:cA x c w v (b::rest) none A) (L:nD x w (b::rest)) (R:v.nb=-1) :
  Calls prog 62 #[.pointer (some ⟨x.d,0,none⟩)] w fun e w'=>e=.returned (.tuple #[.int .u8 b.toNat,.bool true]) ∧
   ∃ v',cA x c w' v' rest none A∧v'.nb=-1∧v'.bufv=v.bufv∧aJ x.S0 w w'∧w'.heap.size=w.heap.size:=by
 have N:=h.dec.cell;have Q:=h.dec.frozen;obtain ⟨W,X,U,V⟩:=h.pos.bounds D;have O:v.err=.nilIface:=h.err;have T:=B.r;have l:=Lib.hid (y7 x D w h.base b rest L);have j:=Lib.hid D;have z:=Lib.hid h;obtain ⟨E,F,Y,S,f,y,d⟩:=v;simp only at O R W X U V;subst O R;have J:=fun a w=>CY a w;have P:=fun a w=>II a w;clear h D L B;by_cases q:b=10
 ·subst q;go_enter func62,ntmps62
  go_wp2_with fail;refine l.out.mono ?_;rintro e w1 ⟨rfl,m,i,o⟩;have g:bR w1 x.d c ⟨E,F,-1,.nilIface,f,y,d⟩:=z.out.dec.mod i (by intro h;rcases h with h|h|h;exact j.out.ne1 h;exact j.out.ne2 h;exact j.out.ne3 h);have G:=g.cell;have I:=g.frozen;have s:=Lib.hid g;have r:=Lib.hid m;have t:=Lib.hid i;have u:=Lib.hid o;clear g m i o N Q l;go_wp2;go_ret2
  have H:=(((s.out.set 20 .nilIface).set 21 (.int .i64 (f+1))).set 22 (.int .i64 (d+1))).set 23 (.int .i64 (d+1));have C:=((((aJ.refl (fun k=>k=x.d) w1).setCell (p:=⟨x.d,20,none⟩) (aG rfl) .nilIface).setCell (p:=⟨x.d,21,none⟩) (aG rfl) (.int .i64 (f+1))).setCell (p:=⟨x.d,22,none⟩) (aG rfl) (.int .i64 (d+1))).setCell (p:=⟨x.d,23,none⟩) (aG rfl) (.int .i64 (d+1));have n:aJ x.S0 w _:=(t.out.mono (fun _ _ h=>aU h)).trans (C.mono (fun _ _ h=>aG h):aJ x.S0 w1 _) (fun _ _ h=>h);refine ⟨rfl,⟨E,F,-1,.nilIface,f+1,d+1,d+1⟩,z.out.step j.out H n ⟨rest,r.out.mod C (fun h=>j.out.ne1 h.symm) (fun h=>j.out.ne2 h.symm) (fun h=>j.out.ne3 h.symm),aG ⟨rfl,rfl⟩⟩ ?_ rfl (aG rfl) rfl,rfl,rfl,n,by simp [World.setCell];exact u.out⟩;exact z.out.pos.got (aG rfl) _ rfl rfl (by simp) (by simp)
 ·have M:=M0 q;go_enter func62,ntmps62
  go_wp2_with fail;refine l.out.mono ?_;rintro e w1 ⟨rfl,m,i,o⟩;have g:bR w1 x.d c ⟨E,F,-1,.nilIface,f,y,d⟩:=z.out.dec.mod i (by intro h;rcases h with h|h|h;exact j.out.ne1 h;exact j.out.ne2 h;exact j.out.ne3 h);have G:=g.cell;have I:=g.frozen;have s:=Lib.hid g;have r:=Lib.hid m;have t:=Lib.hid i;have u:=Lib.hid o;clear g m i o N Q l;go_wp2;go_ret2
  have H:=(s.out.set 20 .nilIface).set 23 (.int .i64 (d+1));have C:=((aJ.refl (fun k=>k=x.d) w1).setCell (p:=⟨x.d,20,none⟩) (aG rfl) .nilIface).setCell (p:=⟨x.d,23,none⟩) (aG rfl) (.int .i64 (d+1));have n:aJ x.S0 w _:=(t.out.mono (fun _ _ h=>aU h)).trans (C.mono (fun _ _ h=>aG h):aJ x.S0 w1 _) (fun _ _ h=>h);refine ⟨rfl,⟨E,F,-1,.nilIface,f,y,d+1⟩,z.out.step j.out H n ⟨rest,r.out.mod C (fun h=>j.out.ne1 h.symm) (fun h=>j.out.ne2 h.symm) (fun h=>j.out.ne3 h.symm),aG ⟨rfl,rfl⟩⟩ ?_ rfl (aG rfl) rfl,rfl,rfl,n,by simp [World.setCell];exact u.out⟩;exact z.out.pos.got (aG rfl) _ rfl rfl (by simp [q]) (by simp [q])
theorem M1 (x:Cx):wZ x (pJ x) (some (mM x.o.fails)):=by
 unfold pJ mM;split<;>exact rfl
theorem M2 (x:Cx) (J:x.Ok) (c:DC) (q:hY x c) (w:World) (v:DV) (n:Bs) (h:cA x c w v [] none n) :
  Calls prog 62 #[.pointer (some ⟨x.d,0,none⟩)] w fun e w'=>e=.returned (.tuple #[.int .u8 0,.bool false]) ∧
   ∃ v',cA x c w' v' [] (some (mM x.o.fails)) n∧v'.nb=-1∧v'.bufv=v.bufv∧aJ x.S0 w w'∧w'.heap.size=w.heap.size:=by
 obtain ⟨un,L,s⟩:=h.inp;have y:v.nb=-1∧un=[]:=by
  rcases s with ⟨T,H⟩|⟨b,_,H⟩
  ·exact ⟨T,H.symm⟩
  ·cases H
 obtain ⟨P,rfl⟩:=y;clear s;have U:=h.dec.cell;have Y:=h.dec.frozen;have M:v.err=.nilIface:=h.err;have W:=q.r;have f:(∃ u t,pJ x=.iface u t):=by unfold pJ;split<;>exact ⟨_,_,rfl⟩
 obtain ⟨u,t,f⟩:=f;have D:=Lib.hid f;have d:=BH x J w h.base L;rw [f] at d;have d:=Lib.hid d;have l:=Lib.hid J;have F:=Lib.hid h;obtain ⟨Q,S,aA,R,g,A,j⟩:=v;simp only at M P;subst M P;have I:=fun a w=>CY a w;have N:=fun a w=>II a w;clear h J L q f;go_enter func62,ntmps62
 go_wp2_with fail;refine d.out.mono ?_;rintro e w1 ⟨rfl,o,m,z⟩;have i:bR w1 x.d c ⟨Q,S,-1,.nilIface,g,A,j⟩:=F.out.dec.mod m (by intro h;rcases h with h|h|h;exact l.out.ne1 h;exact l.out.ne2 h;exact l.out.ne3 h);have V:=i.cell;have Z:=i.frozen;have C:=Lib.hid i;have B:=Lib.hid o;have E:=Lib.hid m;have G:=Lib.hid z;clear i o m z U Y d;go_wp2;go_ret2
 have X:=C.out.set 20 (.iface u t);have O:=(aJ.refl (fun k=>k=x.d) w1).setCell (p:=⟨x.d,20,none⟩) (aG rfl) (.iface u t);have r:aJ x.S0 w _:=(E.out.mono (fun _ _ h=>aU h)).trans (O.mono (fun _ _ h=>aG h):aJ x.S0 w1 _) (fun _ _ h=>h);refine ⟨rfl,⟨Q,S,-1,.iface u t,g,A,j⟩,F.out.step l.out X r ⟨[],B.out.mod O (fun h=>l.out.ne1 h.symm) (fun h=>l.out.ne2 h.symm) (fun h=>l.out.ne3 h.symm),aG ⟨rfl,rfl⟩⟩ F.out.pos (by rw [←D.out];exact M1 x) (aU ⟨rfl,rfl⟩) rfl,rfl,rfl,r,by simp [World.setCell];exact G.out⟩
theorem M3 (c:DC) (d:Nat) (w:World) (v:DV) (h:bR w d c v) (u:TypeId) (t:Value) (b:v.err=.iface u t) :
  Calls prog 62 #[.pointer (some ⟨d,0,none⟩)] w fun e w'=>e=.returned (.tuple #[.int .u8 0,.bool false])∧w=w':=by
 have a:=h.cell;have f:=h.frozen;clear h;go_enter func62,ntmps62
 go_wp2;go_ret2
 exact ⟨rfl,rfl⟩
theorem gA {P:Program} {c t u:TypeId} {g:Array (String×TypeId)} (a b:Value) (w:World) (e:P.underlying c=some (.interface g)) (f:t≠u) :
  (binOp .eql c (.iface t a) (.iface u b)).run P w=.ok (.bool false) w:=by
 have h:∀ d:Nat,(Op.equalIn (d+1) c (.iface t a) (.iface u b)).run P w=.ok false w:=fun d=>by
  simp [Op.equalIn,run_underlying e,f]
 simp only [binOp];simp [Op.equal,Op.maxDepth,h 9999]
theorem rP:(prog.info? 196).map (·.comparable)=some true:=by kernel_rfl
theorem IJ:(prog.info? 198).map (·.size)=some 1:=by kernel_rfl
theorem BJ (a:Addr) (w:World):(binOp .eql 59 (.iface 196 (.pointer (some a))) (.iface 196 (.pointer (some a)))).run prog w=.ok (.bool true) w:=by
 have b:=rP;have d:=IJ;cases c:prog.info? 196 with
 | none=>rw [c] at b;cases b
 | some i=>
  cases e:prog.info? 198 with
  | none=>rw [e] at d;cases d
  | some j=>
   rw [c] at b;exact run_eql_iface_ptr_same w a underlying59 underlying196 c (by simpa using b) e
theorem BK (a:Value) (b:Value) (w:World):(binOp .eql 59 (.iface 116 a) (.iface 196 b)).run prog w=.ok (.bool false) w:=
 gA a b w underlying59 (by decide)
theorem RC (a:Value) (b:Value) (w:World):(binOp .eql 59 (.iface 113 a) (.iface 196 b)).run prog w=.ok (.bool false) w:=
 gA a b w underlying59 (by decide)
theorem eS {b c:UInt8} {n:Int} (h:b≠c) (a:(c.toNat:Int)=n):((b.toNat:Int)==n)=false:=by
 subst a;simp;intro d;exact h (UInt8.toNat_inj.1 (by omega))
theorem cA.suf {x:Cx} {c:DC} {w:World} {v:DV} {rest:Bs} {e:Option EK} {a:Bs} (h:cA x c w v rest e a):rest <:+ x.T:=by
 obtain ⟨pre,b,_⟩:=h.pos;exact ⟨pre,b.symm⟩
theorem oB (x:Cx) (j:x.Ok) (c:DC) (d:hY x c) (w:World) (v:DV) (b:UInt8) (rest:Bs) (e:Option EK) (a:Bs) (h:cA x c w v (b::rest) e a) :
  Calls prog 62 #[.pointer (some ⟨x.d,0,none⟩)] w fun e w'=>e=.returned (.tuple #[.int .u8 b.toNat,.bool true]) ∧
   ∃ v',cA x c w' v' rest none a∧v'.nb=-1∧v'.bufv=v.bufv∧aJ x.S0 w w'∧w'.heap.size=w.heap.size:=by
 have k:e=none:=by rcases h.fin with h|⟨_,h⟩;exact h;cases h
 subst k;obtain ⟨m,i,g⟩:=h.inp;rcases g with ⟨f,rfl⟩|⟨b',f,l⟩
 ·exact RB x j c d w v b rest a h i f
 ·cases l;exact RA x j c w v b rest rest a h i f rfl
theorem qX (x:Cx) (m:x.Ok) (c:DC) (f:hY x c) (w:World) (v:DV) (e:Option EK) (a:Bs) (h:cA x c w v [] e a) :
  Calls prog 62 #[.pointer (some ⟨x.d,0,none⟩)] w fun e w'=>e=.returned (.tuple #[.int .u8 0,.bool false]) ∧
   ∃ v',cA x c w' v' [] (some (mM x.o.fails)) a∧v'.nb=-1∧v'.bufv=v.bufv∧aJ x.S0 w w'∧w'.heap.size=w.heap.size:=by
 have l:v.nb=-1:=by
  obtain ⟨o,n,i⟩:=h.inp;rcases i with ⟨k,j⟩|⟨b,_,j⟩
  ·exact k
  ·cases j
 rcases h.fin with g|⟨g,_⟩
 ·subst g;exact M2 x m c f w v a h
 ·subst g;have d:∃ u t,v.err=.iface u t:=by
   have:=h.err;unfold mM at this;split at this<;>exact ⟨_,_,this⟩
  obtain ⟨u,t,d⟩:=d;refine (M3 c x.d w v h.dec u t d).mono ?_;rintro e w' ⟨rfl,rfl⟩;exact ⟨rfl,v,h,l,rfl,aJ.refl _ _,rfl⟩
theorem gG (x:Cx) (y:x.Ok) (c:DC) (w:World) (v:DV) (b:UInt8) (rest:Bs) (n:Bs) (h:cA x c w v rest none n) (u:v.nb=-1) (j:(b::rest) <:+ x.T) :
  Calls prog 63 #[.pointer (some ⟨x.d,0,none⟩),.int .u8 b.toNat] w fun e w'=>e=.returned (.tuple #[]) ∧
   ∃ v',cA x c w' v' (b::rest) none n∧v'.nb=b.toNat∧v'.bufv=v.bufv∧aJ x.S0 w w'∧w'.heap.size=w.heap.size:=by
 obtain ⟨O,D,q⟩:=h.inp;have r:rest=O:=by
  rcases q with ⟨_,C⟩|⟨b,P,C⟩
  ·exact C
  ·omega
 subst r;clear q;have Q:=h.dec.cell;have R:=h.dec.frozen;obtain ⟨L,M,I,J⟩:=h.pos.bounds y;have H:=UInt8.toNat_lt b;have i:=Lib.hid y;have g:=Lib.hid h;have z:=Lib.hid D;have A:=Lib.hid u;have B:=Lib.hid j;obtain ⟨F,G,N,l,d,s,a⟩:=v;simp only at u L M I J;clear h y D j u;by_cases m:b=10
 ·subst m;go_enter func63,ntmps63
  go_wp2;go_end0
  have t:=((g.out.dec.set 21 (.int .i64 (d-1))).set 18 (.int .i64 10)).set 23 (.int .i64 (a-1));have o:=(((aJ.refl (fun k=>k=x.d) w).setCell (p:=⟨x.d,21,none⟩) (aG rfl) (.int .i64 (d-1))).setCell (p:=⟨x.d,18,none⟩) (aG rfl) (.int .i64 10)).setCell (p:=⟨x.d,23,none⟩) (aG rfl) (.int .i64 (a-1));have f:aJ x.S0 w _:=o.mono (fun _ _ h=>aG h);refine ⟨rfl,⟨F,G,10,l,d-1,s,a-1⟩,g.out.step i.out t f ⟨rest,z.out.mod o (fun h=>i.out.ne1 h.symm) (fun h=>i.out.ne2 h.symm) (fun h=>i.out.ne3 h.symm),aU ⟨10,rfl,rfl⟩⟩ ?_ g.out.err (aG rfl) rfl,rfl,rfl,f,by simp [World.setCell]⟩;exact g.out.pos.put B.out A.out _ rfl rfl (by simp) rfl
 ·have E:=M0 m;go_enter func63,ntmps63
  go_wp2;go_end0
  have t:=(g.out.dec.set 18 (.int .i64 b.toNat)).set 23 (.int .i64 (a-1));have o:=((aJ.refl (fun k=>k=x.d) w).setCell (p:=⟨x.d,18,none⟩) (aG rfl) (.int .i64 b.toNat)).setCell (p:=⟨x.d,23,none⟩) (aG rfl) (.int .i64 (a-1));have f:aJ x.S0 w _:=o.mono (fun _ _ h=>aG h);refine ⟨rfl,⟨F,G,b.toNat,l,d,s,a-1⟩,g.out.step i.out t f ⟨rest,z.out.mod o (fun h=>i.out.ne1 h.symm) (fun h=>i.out.ne2 h.symm) (fun h=>i.out.ne3 h.symm),aU ⟨b,rfl,rfl⟩⟩ ?_ g.out.err (aG rfl) rfl,rfl,rfl,f,by simp [World.setCell]⟩;exact g.out.pos.put B.out A.out _ rfl rfl (by simp [m]) rfl
theorem bK (x:Cx) (i:x.Ok) (c:DC) (f:hY x c) (w:World) (v:DV) (b:UInt8) (rest:Bs) (e:Option EK) (d:Bs) (h:cA x c w v (b::rest) e d) :
  Calls prog 65 #[.pointer (some ⟨x.d,0,none⟩)] w fun e w'=>e=.returned (.tuple #[.int .u8 b.toNat,.bool true]) ∧
   ∃ v',cA x c w' v' rest none d∧v'.nb=-1∧v'.bufv=v.bufv∧aJ x.S0 w w'∧w'.heap.size=w.heap.size:=by
 have a:=Lib.hid (oB x i c f w v b rest e d h);clear h i f;go_enter func65,ntmps65
 go_wp2_with fail;refine a.out.mono ?_;rintro e w1 ⟨rfl,g⟩;have j:=Lib.hid g;clear g a;go_wp2;go_ret2
 exact ⟨rfl,j.out⟩
theorem bN (x:Cx) (H:x.Ok) (c:DC) (t:hY x c) (w:World) (v:DV) (e:Option EK) (q:Bs) (h:cA x c w v [] e q) :
  Calls prog 65 #[.pointer (some ⟨x.d,0,none⟩)] w fun e w'=>e=.returned (.tuple #[.int .u8 0,.bool false]) ∧
   ∃ v',iQ x c w' v' (bY x.o.fails)∧v'.bufv=v.bufv∧aJ x.S0 w w':=by
 have j:=Lib.hid (qX x H c t w v e q h);have D:=Lib.hid H;clear h H t;go_enter func65,ntmps65
 go_wp2_with fail;refine j.out.mono ?_;rintro e w1 ⟨rfl,m,l,G,r,u,I⟩;have E:=l.dec.cell;have F:=l.dec.frozen;have N:w1.cell? ⟨0,0,none⟩=some x.eofV:=by rw [←D.out.eof];exact l.base.cell D.out.gB
 have d:=l.err;have z:=Lib.hid l;have o:=Lib.hid r;have p:=Lib.hid u;have O:=Lib.hid (fun k J=>BI x.d c m (w1.drewN k) l.dec J);clear l r u I G j;have R:=fun a w=>BJ a w;have S:=fun a b w=>BK a b w;cases g:x.o.fails
 ·have M:m.err=x.eofV:=by rw [g] at d;exact d
  clear d;go_wp2;go_quiet (fail);go_wp2_with fail;refine (O.out _ _).mono ?_;rintro e L ⟨rfl,i⟩;have f:bR L x.d c m:=by rw [i];exact aL.alloc (show aL (w1.drewN _) _ _ _ from z.out.dec) _
  have y:aJ x.S0 w L:=by rw [i];exact (p.out.drewN _).alloc _
  have P:=f.cell;have Q:=f.frozen;have B:=Lib.hid f;have C:=Lib.hid y;have n:=Lib.hid z.out.base;have s:Below x.B x.W0 L:=by rw [i];exact (bM n.out _).alloc n.out.size _
  have A:=Lib.hid s;clear i f y s E F;go_wp2;go_ret2
  rw [show bY x.o.fails=.syn by rw [g];rfl];exact ⟨rfl,{ m with err:=.iface 113 (.pointer (some ⟨w1.heap.size,0,none⟩)) },⟨A.out.setCell D.out.d _,B.out.set 20 _,⟨_,rfl⟩⟩,o.out,C.out.setCell (aG (aG rfl)) _⟩
 ·have M:m.err=y6:=by rw [g] at d;exact d
  clear d;go_wp2;go_quiet (fail);go_wp2;go_ret2
  rw [show bY x.o.fails=.own by rw [g];rfl];exact ⟨rfl,m,⟨bM z.out.base _,z.out.dec,M⟩,o.out,p.out.drewN _⟩
structure VB (x:Cx) (c:DC) (w:World) (v:DV) (rest:Bs) (buf:Bs) (w':World) (v':DV) (a:Option EK):Prop where
 rd:cA x c w' v' (aT rest) a buf
 bufv:v'.bufv=v.bufv
 mod:aJ x.S0 w w'
theorem sQ (x:Cx) (Y:x.Ok) (c:DC) (F:hY x c) (w:World) (v:DV) (rest:Bs) (e:Option EK) (i:Bs) (h:cA x c w v rest e i) :
  Calls prog 67 #[.pointer (some ⟨x.d,0,none⟩)] w fun en w'=>en=.returned (.tuple #[])∧∃ v' e',VB x c w v rest i w' v' e':=by
 have Q:=Lib.hid Y;have V:=Lib.hid F;have H:=Lib.hid h;clear h Y F;go_enter func67,ntmps67
 go_wp2;go_loopg [2,3] rest.length (fun k _ _ wr=>∃ J M d,d.length=k∧aT d=aT rest∧cA x c wr J d M i∧J.bufv=v.bufv∧aJ x.S0 w wr)
 case atStart=>exact ⟨v,e,rest,rfl,rfl,H.out,rfl,aJ.refl _ _⟩
 case round=>
  obtain ⟨J,M,d,R,z,D,u,y⟩:=hrel;cases d with
  | nil=>
   have a:=Lib.hid (qX x Q.out c V.out wr J M i D);have t:=Lib.hid z;have q:=Lib.hid u;have s:=Lib.hid y;clear D u y z R;go_wp2_with fail;refine a.out.mono ?_;rintro W U ⟨rfl,L,A,j,f,g,p⟩;have N:=Lib.hid A;have m:=Lib.hid f;have n:=Lib.hid g;clear A f g p j a;go_wp2;(try simp only [Exit.inBlock,Exit.then]);refine bodyPost_ret (results_none rfl _ _ _) rfl ?_
   exact ⟨rfl,L,_,by rw [←t.out];exact N.out,m.out.trans q.out,s.out.trans n.out (fun _ _ h=>h)⟩
  | cons b r=>
   have a:=Lib.hid (oB x Q.out c V.out wr J b r M i D);have t:=Lib.hid z;have q:=Lib.hid u;have s:=Lib.hid y;have HK:=Lib.hid R;have C:=Lib.hid D.suf;clear D u y z R;by_cases l:l6 b=true
   ·have B:b=32∨b=13∨b=10∨b=9:=by
     simpa [l6,or_assoc] using l
    have o:Hid (aT r=aT rest):=by
     have:=t.out;rw [aT,aY l] at this;exact this
    clear l;rcases B with rfl|rfl|rfl|rfl
    all_goals
     go_wp2_with fail;refine a.out.mono ?_;rintro W U ⟨rfl,L,A,j,f,g,p⟩;have N:=Lib.hid A;have m:=Lib.hid f;have n:=Lib.hid g;clear A f g p j a;go_wp2;go_roundg r.length
     case measure=>have:=HK.out;simp at this;omega
     case rel=>exact ⟨L,none,r,rfl,o.out,N.out,m.out.trans q.out,s.out.trans n.out (fun _ _ h=>h)⟩
   ·have B:b≠32∧b≠13∧b≠10∧b≠9:=by
     refine ⟨?_,?_,?_,?_⟩<;>(intro h;subst h;exact l rfl)
    have o:Hid (aT rest=b::r):=by
     have:=t.out;rw [aT,aQ l] at this;exact this.symm
    have t1:((b.toNat:Int)==32)=false:=eS B.1 rfl;have t2:((b.toNat:Int)==13)=false:=eS B.2.1 rfl;have t3:((b.toNat:Int)==10)=false:=eS B.2.2.1 rfl;have t4:((b.toNat:Int)==9)=false:=eS B.2.2.2 rfl;clear l B;go_wp2_with fail;refine a.out.mono ?_;rintro W U ⟨rfl,L,A,j,f,g,p⟩;have I:=Lib.hid (gG x Q.out c U L b r i A j C.out);have m:=Lib.hid f;have n:=Lib.hid g;clear A f g p j a;go_wp2_with fail;refine I.out.mono ?_;rintro e3 w3 ⟨rfl,v3,X,S,E,G,T⟩;have Z:=Lib.hid X;have O:=Lib.hid E;have P:=Lib.hid G;clear X E G T S I;go_wp2;(try simp only [Exit.inBlock,Exit.then]);refine bodyPost_ret (results_none rfl _ _ _) rfl ?_
    exact ⟨rfl,v3,none,by rw [o.out];exact Z.out,O.out.trans (m.out.trans q.out),(s.out.trans n.out (fun _ _ h=>h)).trans P.out (fun _ _ h=>h)⟩
theorem cA.buf {x:Cx} (m:x.Ok) {c:DC} {w w':World} {v v':DV} {rest:Bs} {e:Option EK} {n j:Bs} (h:cA x c w v rest e n) (o:bR w' x.d c v') (u:aJ (fun k=>k=x.d∨dU v.bufv k) w w')
  (s:v'.nb=v.nb) (A:v'.err=v.err) (B:v'.line=v.line) (C:v'.lstart=v.lstart) (D:v'.off=v.off) (y:lY x w' v'.bufv j):cA x c w' v' rest e j:=by
 have p:∀ k,x.Sio k→¬ (k=x.d∨dU v.bufv k):=by
  intro k t f;rcases f with f|f
  ·subst f;rcases t with h|h|h
   ·exact m.ne1 h
   ·exact m.ne2 h
   ·exact m.ne3 h
  ·exact h.bf.notS0 k f (aU t)
 refine ⟨aJ.below h.base h.base.size u ?_,o,?_,?_,by rw [A];exact h.err,h.fin,y⟩
 ·intro i l;rcases l with l|l
  ·subst l;exact m.d
  ·rcases h.bf with ⟨r,_⟩|⟨g,cap,arr,r,_,_,_,_,G,_,_⟩
   ·rw [r] at l;exact l.elim
   ·rw [r] at l;have:i=g:=l;omega
 ·obtain ⟨F,E,q⟩:=h.inp;exact ⟨F,E.mod u (p _ (aG rfl)) (p _ (aU (aG rfl))) (p _ (aU (aU rfl))),by rw [s];exact q⟩
 ·obtain ⟨pre,a,b,z,d⟩:=h.pos;exact ⟨pre,a,by rw [D];exact b,by rw [B];exact z,by rw [s,C];exact d⟩
theorem oU (x:Cx) (C:x.Ok) (c:DC) (w:World) (v:DV) (rest:Bs) (e:Option EK) (r:Bs) (h:cA x c w v rest e r) :
  Calls prog 69 #[.pointer (some ⟨x.d,7,none⟩)] w fun F w'=>F=.returned (.tuple #[])∧∃ v',cA x c w' v' rest e []∧v'.nb=v.nb∧(∀ k,dU v'.bufv k↔dU v.bufv k)∧aJ x.S0 w w'∧w'.heap.size=w.heap.size:=by
 have J:=h.dec.cell;have L:=h.dec.frozen;have A:=Lib.hid C;have H:=Lib.hid h;obtain ⟨N,O,q,b,a,o,d⟩:=v;have t:=h.bf;clear h C;rcases t with ⟨n,I⟩|⟨g,cap,arr,n,B,z,M,u,s,m,i⟩
 ·simp only at n;subst n;go_enter func69,ntmps69
  go_wp2;go_end0
  have y:=((H.out.dec.set 7 (.slice none 0 0)).set 8 (.int .i64 0)).set 9 (.int .i8 0);have l:=(((aJ.refl (fun k=>k=x.d) w).setCell (p:=⟨x.d,7,none⟩) (aG rfl) (.slice none 0 0)).setCell (p:=⟨x.d,8,none⟩) (aG rfl) (.int .i64 0)).setCell (p:=⟨x.d,9,none⟩) (aG rfl) (.int .i8 0);exact ⟨rfl,⟨.slice none 0 0,0,q,b,a,o,d⟩,H.out.buf A.out y (l.mono (fun _ _ h=>aG h)) rfl rfl rfl rfl rfl (aG ⟨rfl,rfl⟩),rfl,fun k=>Iff.rfl,l.mono (fun _ _ h=>aG h),by simp [World.setCell]⟩
 ·simp only at n;subst n;have E:=Lib.hid B;have D:=Lib.hid i;clear B i;go_enter func69,ntmps69
  go_wp2;go_end0
  have y:=((H.out.dec.set 7 (.slice (some ⟨g,0,none⟩) 0 cap)).set 8 (.int .i64 0)).set 9 (.int .i8 0);have l:=(((aJ.refl (fun k=>k=x.d) w).setCell (p:=⟨x.d,7,none⟩) (aG rfl) (.slice (some ⟨g,0,none⟩) 0 cap)).setCell (p:=⟨x.d,8,none⟩) (aG rfl) (.int .i64 0)).setCell (p:=⟨x.d,9,none⟩) (aG rfl) (.int .i8 0);have f:g≠x.d:=fun h=>m (aG h)
  exact ⟨rfl,⟨.slice (some ⟨g,0,none⟩) 0 cap,0,q,b,a,o,d⟩,H.out.buf A.out y (l.mono (fun _ _ h=>aG h)) rfl rfl rfl rfl rfl
   (aU ⟨g,cap,arr,rfl,((E.out.set_ne f _).set_ne f _).set_ne f _,z,jU _,u,s,m,fun j G=>by simp at G⟩),rfl,fun k=>Iff.rfl,l.mono (fun _ _ h=>aG h),by simp [World.setCell]⟩
theorem l8 (x:Cx) (c:DC) (w:World) (v:DV) (rest:Bs) (e:Option EK) (a:Bs) (h:cA x c w v rest e a) :
  Calls prog 71 #[.pointer (some ⟨x.d,7,none⟩)] w fun o w'=>o=.returned v.bufv∧∃ k,w'=w.drewN k:=by
 have y:=h.dec.cell;have z:=h.dec.frozen;have d:=h.bf;obtain ⟨B,C,t,m,l,s,n⟩:=v;clear h;rcases d with ⟨j,u⟩|⟨g,cap,arr,j,q,r,A,p,b,i,f⟩
 all_goals
  simp only at j;subst j;try clear q f b i
  go_enter func71,ntmps71
  go_wp2;go_quiet (fail);go_wp2;go_ret
  exact ⟨rfl,_,rfl⟩
theorem zW (x:Cx) (c:DC) (w:World) (v:DV) (rest:Bs) (e:Option EK) (a:Bs) (h:cA x c w v rest e a) :
  Calls prog 76 #[.pointer (some ⟨x.d,7,none⟩)] w fun o w'=>o=.returned (.int .i64 a.length)∧∃ k,w'=w.drewN k:=by
 have z:=h.dec.cell;have A:=h.dec.frozen;have f:=h.bf;obtain ⟨C,D,y,m,l,u,n⟩:=v;clear h;rcases f with ⟨b,p⟩|⟨g,cap,arr,b,r,t,B,q,d,j,i⟩
 ·simp only at b;subst b p;go_enter func76,ntmps76
  go_wp2;go_quiet (fail);go_wp2;go_ret
  exact ⟨rfl,_,rfl⟩
 ·simp only at b;subst b;have s:(a.length:Int)≤9223372036854775807:=by omega
  clear r i d j;go_enter func76,ntmps76
  go_wp2;go_quiet (fail);go_wp2;go_ret
  exact ⟨by simp,_,rfl⟩
theorem uY (d:Nat) (c:DC) (v:DV) (w:World) (h:bR w d c v) (g b a n:Nat) (f:v.bufv=.slice (some ⟨g,0,none⟩) b a) (t:b+n≤a) (r:a≤9223372036854775807) :
  Calls prog 103 #[.pointer (some ⟨d,7,none⟩),.int .i64 n] w fun k w'=>k=.returned (.tuple #[.int .i64 b,.bool true])∧w'=w.setCell ⟨d,7,none⟩ (.slice (some ⟨g,0,none⟩) (b+n) a):=by
 have l:=h.cell;have s:=h.frozen;obtain ⟨u,x,o,i,e,m,j⟩:=v;simp only at f;subst f;clear h;have p:(n:Int)≤(a:Int)-(b:Int):=by omega
 have q:(b:Int)+(n:Int)≤(a:Int):=by omega
 go_enter func103,ntmps103
 go_wp2;go_ret2
 exact ⟨rfl,rfl⟩
theorem oV (d:Nat) (c:DC) (v:DV) (w:World) (h:bR w d c v) (a:Option Addr) (e b n:Nat) (g:v.bufv=.slice a e b) (s:e≤b) (t:b<e+n) (q:b≤9223372036854775807) :
  Calls prog 103 #[.pointer (some ⟨d,7,none⟩),.int .i64 n] w fun k w'=>k=.returned (.tuple #[.int .i64 0,.bool false])∧w=w':=by
 have l:=h.cell;have r:=h.frozen;obtain ⟨u,x,o,i,f,m,j⟩:=v;simp only at g;subst g;clear h;have p:¬ ((n:Int)≤(b:Int)-(e:Int)):=by omega
 go_enter func103,ntmps103
 go_wp2;go_ret2
 exact ⟨rfl,rfl⟩
structure xA (x:Cx) (c:DC) (w:World) (v:DV) (buf:Bs) (n:Nat) (w':World) (g cap:Nat) (a:Array Value):Prop where
 dec:bR w' x.d c { v with bufv:=.slice (some ⟨g,0,none⟩) (buf.length+n) cap }
 blk:aL w' g a 5
 sz:a.size=cap
 cp:buf.length+n≤cap
 cm:cap≤9223372036854775807
 new:w.heap.size≤g
 el:∀ j,j<buf.length→a[j]?=some (.int .u8 (buf.getD j 0).toNat)
 mod:aJ (fun k=>k=x.d) w w'
theorem UQ:(prog.info? 5).map (fun i=>(i.zero,i.size,i.bytes))=some (some (.int .u8 0),1,1):=by kernel_rfl
theorem Aj (n:Nat) (e:n≤64) (w:World):(Instr.makeSlice 81 (.int .i64 n) (.int .i64 64)).run prog w=.ok (.slice (some ⟨w.heap.size,0,none⟩) n 64) (w.alloc (.cells (madeCells #[.int .u8 0] 64) 5)):=by
 obtain ⟨i,c,d,a,b⟩:=info_parts UQ;have:=run_make w 81 5 i (.int .u8 0) underlying81 c d .i64 .i64 n 64 (by omega) (by omega) (by rw [b];omega) (by omega);rw [a] at this;simpa [Value.cells] using this
theorem M4 (x:Cx) (C:x.Ok) (c:DC) (w:World) (v:DV) (rest:Bs) (e:Option EK) (h:cA x c w v rest e []) (A:v.bufv=.slice none 0 0) (n:Nat) (V:1≤n) (z:n≤64) :
  Calls prog 104 #[.pointer (some ⟨x.d,7,none⟩),.int .i64 n] w fun E w'=>E=.returned (.int .i64 0)∧∃ g u t,xA x c w v [] n w' g u t:=by
 have F:=h.dec.cell;have J:=h.dec.frozen;have l:=Lib.hid (zW x c w v rest e [] h);have R:=Lib.hid C;have H:=Lib.hid h;have m:=Lib.hid (fun k=>oV x.d c v (w.drewN k) h.dec none 0 0 n A (by omega) (by omega) (by omega));obtain ⟨W,D,r,f,b,q,i⟩:=v;simp only at A;subst A;clear h C;have U:(n:Int)≤64:=by omega
 go_enter func104,ntmps104
 go_wp2_with fail;refine l.out.mono ?_;rintro S w1 ⟨rfl,k,rfl⟩;go_wp2_with fail;refine (m.out _).mono ?_;rintro T X ⟨rfl,rfl⟩;have G:∀ o,(w.drewN k).cell? ⟨x.d,o,none⟩=(oQ c ⟨.slice none 0 0,D,r,f,b,q,i⟩)[o]?:=F;have L:∀ o,(w.drewN k).frozen? ⟨x.d,o,none⟩=false:=J;have B:=fun (w:World) (a:Option Addr) (n c:Nat)=>Lib.run_eql_slice_nil (P:=prog) w 81 5 a n c 0 0 underlying81;have Q:=Aj n z;have d:bR ((w.drewN k).alloc (.cells (madeCells #[.int .u8 0] 64) 5)) x.d c ⟨.slice none 0 0,D,r,f,b,q,i⟩:=aL.alloc (show aL (w.drewN k) _ _ _ from H.out.dec) _;have I:=d.cell;have M:=d.frozen;have s:=Lib.hid d;clear d;go_wp2;go_ret
 have O:=((((aJ.refl (fun k=>k=x.d) w).drewN k).alloc (.cells (madeCells #[.int .u8 0] 64) 5)).setCell (p:=⟨x.d,7,none⟩) (aG rfl) (.slice (some ⟨w.heap.size,0,none⟩) n 64));have y:w.heap.size≠x.d:=fun h=>by have:=H.out.dec.lt;omega
 refine ⟨rfl,w.heap.size,64,madeCells #[.int .u8 0] 64,?_,?_,size_madeCells _ _,by simp;omega,by omega,dF _,fun j N=>by simp at N,O⟩
 ·have:=s.out.set 7 (.slice (some ⟨w.heap.size,0,none⟩) n 64);rw [show ([]:Bs).length+n=n by simp];exact this
 ·exact (show aL ((w.drewN k).alloc (.cells (madeCells #[.int .u8 0] 64) 5)) w.heap.size _ _ from aL.new (w.drewN k) _ _).set_ne y _
theorem zX (x:Cx) (hx:x.Ok) (c:DC) (w:World) (v:DV) (rest:Bs) (e:Option EK) (b:Bs) (h:cA x c w v rest e b) (g f:Nat) (m:Array Value) (hv:v.bufv=.slice (some ⟨g,0,none⟩) b.length f)
  (hg:aL w g m 5) (aC:m.size=f) (A:b.length≤f) (y:∀ j,j<b.length→m[j]?=some (.int .u8 (b.getD j 0).toNat))
  (n:Nat) (hn:1≤n) (hr:f<b.length+n) (G:b.length+n≤100000000000000) :
  Calls prog 104 #[.pointer (some ⟨x.d,7,none⟩),.int .i64 n] w fun en w'=>en=.returned (.int .i64 b.length)∧∃ g f m,xA x c w v b n w' g f m:=by
 have hc:=h.dec.cell;have hf:=h.dec.frozen;have t:=Lh (zW x c w v rest e b h);have ⟨HX,H⟩:=cB hx h;have I:=Lh (fun k=>oV x.d c v (w.drewN k) h.dec _ _ _ n hv A hr (by omega));have E:=Lh (fun k=>Tryz.bytes_growSlice_row g b.length f n m (w.drewN k) hg aC A hn (by omega) (by omega) (by
  intro u hu;obtain ⟨j,Y,rfl⟩:=List.mem_iff_getElem.1 hu;have Z:j<b.length:=by simp at Y;omega
  have:=y j Z;simp only [List.getElem_take];rw [Array.getElem?_eq_some_iff] at this;obtain ⟨h1,N⟩:=this;simp [N,Value.oneCell']))
 have D:=Lh y;have a4:¬ ((9223372036854775807:Int)-(f:Int)-(n:Int)<(f:Int)):=by omega
 have hq:¬ ((n:Int)≤(f:Int) / 2-(b.length:Int)):=by omega
 have a2:(f:Int)≤100000000000000:=by omega
 have V:(0:Int)≤(b.length:Int):=by omega
 have W:(b.length:Int)≤100000000000000:=by omega
 have a9:(n:Int)≤100000000000000:=by omega
 have bA:IntKind.i64.wrap (n:Int)=n:=IntWalk.i64_in _ (by omega);obtain ⟨sb,sl,a1,J,C,a0,M⟩:=v;simp only at hv;subst hv;clear h hx y hg;obtain ⟨L,O⟩:=cK b.length;rw [←O] at hc t E D hq V W H A hr G;have U:=Lh O;rw [←O];clear O;have hz:((L:Int)==0)=true∨((L:Int)==0)=false:=by cases ((L:Int)==0)<;>simp
 rcases hz with hz|hz
 all_goals
  go_enter func104,ntmps104
  go_wp2_with fail;refine t.o.mono ?_;rintro e1 w1 ⟨rfl,k,rfl⟩;have a5:∀ o,(w.drewN k).cell? ⟨x.d,o,none⟩=(oQ c ⟨.slice (some ⟨g,0,none⟩) L f,sl,a1,J,C,a0,M⟩)[o]?:=hc;have a7:∀ o,(w.drewN k).frozen? ⟨x.d,o,none⟩=false:=hf;have a3:=fun (w:World) (a:Option Addr) (n c:Nat)=>Lib.run_eql_slice_nil (P:=prog) w 81 5 a n c 0 0 underlying81;go_wp2_with fail;refine (I.o _).mono ?_;rintro e2 w2 ⟨rfl,rfl⟩;go_wp2_with fail;(refine lD [0,0,0,0,1,0,0,0,1,1,0,0,0,1,0,1,2,0,0,2] [0,1,2,3,5,6,7,10,11,12,14,4,8,9,13,15,16,17,18,19] ?_;refine vP ?_;repeat with_reducible intro nq)
  refine bI rfl rfl (fun nq K hK=>?_);go_simp;go_at_call 121
  refine (E.o _).mono ?_;rintro e3 w3 ⟨d,r,rfl,k1,k2,k3,k4,k5,B⟩;have s:=aL.mod (w:=w) (w':=w3) (S:=fun _=>False) H.o.dec ⟨B.os,B.tape,B.output,B.size,fun i X _=>B.block i X⟩ id;have a6:=s.cell;have a8:=s.frozen;have ⟨Q,R,T,q⟩:=kS s k1 k3 B;have h4:(L:Int)+(n:Int)≤(d:Int):=by omega
  have h5:(d:Int)≤9223372036854775807:=by unfold maxLen at k5;omega
  clear s k1 k3 B k5;go_wp2_with fail;refine hK.out _ _ ?_;clear hK K;(refine vP ?_;repeat with_reducible intro nq)
  go_wp2;go_ret
  have z:w.heap.size≠x.d:=fun h=>by have:=H.o.dec.lt;omega
  have aA:aJ (fun k=>k=x.d) w w3:=⟨q.o.os,q.o.tape,q.o.output,q.o.size,fun i X _=>q.o.block i X⟩;have hb:aL w3 w.heap.size r 5:=R.o;refine ⟨by trivial,w.heap.size,d,r,?_,?_,by assumption,by rw [←U.o];assumption,by omega,dF _,?_,?_⟩
  ·rw [←U.o];exact ((Q.o.set 7 (.slice (some ⟨w.heap.size,0,none⟩) L d)).set 8 (.int .i64 0)).set 7 (.slice (some ⟨w.heap.size,0,none⟩) (L+n) d)
  ·exact ((hb.set_ne (a:=⟨x.d,7,none⟩) z (.slice (some ⟨w.heap.size,0,none⟩) L d)).set_ne (a:=⟨x.d,8,none⟩) z (.int .i64 0)).set_ne (a:=⟨x.d,7,none⟩) z (.slice (some ⟨w.heap.size,0,none⟩) (L+n) d)
  ·intro j Y;have F:j<L:=by rw [U.o];exact Y
   have h1:=D.o j F;have N:=congrArg (fun l=>l[j]?) T.o;simp only [List.getElem?_take,F,if_true,Array.getElem?_toList] at N;rw [N];exact h1
  ·exact (((((aA.drewN _).setCell (p:=⟨x.d,7,none⟩) (aG rfl) (.slice (some ⟨w.heap.size,0,none⟩) L d)).drewN _).setCell (p:=⟨x.d,8,none⟩) (aG rfl) (.int .i64 0)).setCell (p:=⟨x.d,7,none⟩) (aG rfl) (.slice (some ⟨w.heap.size,0,none⟩) (L+n) d))
theorem M5 (x:Cx) (q:x.Ok) (c:DC) (w:World) (v:DV) (rest:Bs) (e:Option EK) (b:Bs) (h:cA x c w v rest e b) (n:Nat) (p:1≤n) (l:n≤64)
  (B:∀ a o d,v.bufv=.slice (some a) o d→d<b.length+n) (i:b.length+n≤100000000000000) :
  Calls prog 104 #[.pointer (some ⟨x.d,7,none⟩),.int .i64 n] w fun r w'=>r=.returned (.int .i64 b.length)∧∃ g d f,xA x c w v b n w' g d f:=by
 rcases h.bf with ⟨j,t⟩|⟨g,d,f,j,y,m,z,u,s,A,k⟩
 ·subst t;exact M4 x q c w v rest e h j n p l
 ·exact zX x q c w v rest e b h g d f j y m z k n p (B _ _ _ j) i
theorem cA.s0lt {x:Cx} {c:DC} {w:World} {v:DV} {rest:Bs} {e:Option EK} {b:Bs} (h:cA x c w v rest e b) (k:Nat) (a:x.S0 k):k<w.heap.size:=by
 obtain ⟨l,⟨r,q,n,j,d,s,m,f,g,_,i,_⟩,_⟩:=h.inp;rcases a with a|a|a|a<;>subst a
 ·exact aL.lt h.dec
 ·exact f.lt
 ·exact g.lt
 ·exact i.lt
theorem cA.more {x:Cx} (I:x.Ok) {c:DC} {w:World} {v:DV} {rest:Bs} {e:Option EK} {d:Bs} (h:cA x c w v rest e d) (o:Bs) (w':World) (v':DV) (g i:Nat) (f:Array Value)
  (s:bR w' x.d c v') (p:v'.bufv=.slice (some ⟨g,0,none⟩) (d.length+o.length) i) (r:aL w' g f 5) (J:f.size=i) (A:d.length+o.length≤i) (z:i≤9223372036854775807)
  (n:(dU v.bufv g∧x.B≤g∧¬ x.S0 g)∨w.heap.size≤g) (B:∀ j,j<d.length→f[j]?=some (.int .u8 (d.getD j 0).toNat)) (t:∀ j,j<o.length→f[d.length+j]?=some (.int .u8 (o.getD j 0).toNat))
  (y:aJ (fun k=>k=x.d∨dU v.bufv k) w w') (u:v'.nb=v.nb) (C:v'.err=v.err) (D:v'.line=v.line) (E:v'.lstart=v.lstart) (F:v'.off=v.off) :
  cA x c w' v' rest e (d++o)∧v'.nb=v.nb∧cN x w v w' v':=by
 have q:x.B≤g∧¬ x.S0 g:=by
  rcases n with ⟨_,b,c⟩|n
  ·exact ⟨b,c⟩
  ·refine ⟨fQ ?_ n,fun H=>?_⟩
   ·exact h.base.size
   ·have:=h.s0lt g H;omega
 refine ⟨h.buf I s y u C D E F (aU ⟨g,i,f,by rw [fP];exact p,r,J,by rw [fP];exact A,z,q.1,q.2,fun j G=>?_⟩),u,⟨y.mono (fun k _ l=>by
  rcases l with l|l
  ·exact aG (aG l)
  ·exact aU l),fun k l=>?_⟩⟩
 ·rw [fP] at G;by_cases m:j<d.length
  ·rw [B j m];simp [rF,List.getElem?_append_left m]
  ·have:=t (j-d.length) (by omega);rw [show d.length+(j-d.length)=j by omega] at this;rw [this];simp [rF,CQ (Nat.le_of_not_lt m)]
 ·rw [p] at l;have:k=g:=l;subst this;rcases n with ⟨a,_⟩|n
  ·exact aG a
  ·exact aU n
theorem sR {w w':World} {g:Nat} (h:w'.heap[g]?=w.heap[g]?) (j:Nat):w'.cell? ⟨g,j,none⟩=w.cell? ⟨g,j,none⟩:=by
 unfold World.cell?;simp [h]
def RD (v:DV) (a:Bs) (w w':World):Prop:=∀ g l b,v.bufv=.slice (some ⟨g,0,none⟩) l b→∀ j,j<a.length→w'.cell? ⟨g,j,none⟩=w.cell? ⟨g,j,none⟩
theorem fV (x:Cx) (hx:x.Ok) (c:DC) (w:World) (v:DV) (rest:Bs) (e:Option EK) (f:Bs) (h:cA x c w v rest e f) (b:UInt8) (b4:f.length≤50000000000000) :
  Calls prog 70 #[.pointer (some ⟨x.d,7,none⟩),.int .u8 b.toNat] w fun en w'=>en=.returned .nilIface∧∃ v',(cA x c w' v' rest e (f++[b])∧v'.nb=v.nb∧cN x w v w' v')∧RD v f w w':=by
 have HX:=Lh hx;have B:bR (w.setCell ⟨x.d,9,none⟩ (.int .i8 0)) x.d c { v with lastRead:=0 }:=h.dec.set 9 (.int .i8 0);have Y:aJ (fun k=>k=x.d∨dU v.bufv k) w (w.setCell ⟨x.d,9,none⟩ (.int .i8 0)):=(aJ.refl _ w).setCell (aG (aG rfl)) _;have U:∀ k,dU v.bufv k→k≠x.d:=fun k hk e=>h.bf.notS0 k hk (aG e);have h9:cA x c (w.setCell ⟨x.d,9,none⟩ (.int .i8 0)) { v with lastRead:=0 } rest e f:=h.buf hx B Y rfl rfl rfl rfl rfl (h.bf.mod ((aJ.refl (fun k=>k=x.d) w).setCell (p:=⟨x.d,9,none⟩) (aG rfl) _) U)
 have V:(∃ g d m,v.bufv=.slice (some ⟨g,0,none⟩) f.length d∧aL w g m 5∧m.size=d∧f.length+1≤d∧d≤9223372036854775807∧x.B≤g∧¬ x.S0 g∧(∀ j,j<f.length→m[j]?=some (.int .u8 (f.getD j 0).toNat))) ∨
   (∃ a l d,v.bufv=.slice a l d∧l≤d∧d<l+1∧d≤9223372036854775807∧∀ a b3 d,v.bufv=.slice (some a) b3 d→d<f.length+1):=by
  rcases h.bf with ⟨s,hb⟩|⟨g,d,m,s,hg,E,X,r,I,D,J⟩
  ·exact aU ⟨none,0,0,s,by omega,by omega,by omega,fun a l c' h'=>by rw [s] at h';cases h'⟩
  ·by_cases hr:f.length+1≤d
   ·exact aG ⟨g,d,m,s,hg,E,hr,r,I,D,J⟩
   ·exact aU ⟨_,_,_,s,X,by omega,r,fun a l c' h'=>by rw [s] at h';cases h';omega⟩
 have ⟨H,H9,a7⟩:=kV h h9 Y;have hc:=h.dec.cell;have hf:=h.dec.frozen;have HB:=Lh U;have aA:(0:Int)≤(f.length:Int):=by omega
 clear h h9 Y U hx;rcases V with ⟨g,d,m,s,hg,E,X,r,I,D,J⟩|⟨a,l,d,s,X,hr,r,a4⟩
 ·have M:=Lh (uY x.d c { v with lastRead:=0 } _ B g f.length d 1 s X r);have W:x.d≠g:=fun e=>D (aG e.symm);have o:g≠x.d:=fun e=>D (aG e);have bA:=hg.cell;have bC:=hg.frozen;have ⟨a6,F⟩:=cB J hg;have a2:(f.length:Int)<(f.length:Int)+1:=by omega
  have A:∃ u,m[f.length]?=some u:=by
   have:f.length<m.size:=by omega
   exact ⟨_,Array.getElem?_eq_getElem this⟩
  obtain ⟨u,hu⟩:=A;obtain ⟨sb,sl,O,t,q,N,y⟩:=v;simp only at s;subst s;obtain ⟨L,T⟩:=cK f.length;have z:=Lh T;rw [←T] at hc M aA a2 hu X;have a5:=Lh I;clear T hg J B I;go_enter func70,ntmps70
  go_wp2_with fail;refine M.o.mono ?_;rintro e1 w1 ⟨rfl,rfl⟩;go_wp2;go_ret
  have R:aL w g m 5:=F.o;refine ⟨by trivial,⟨.slice (some ⟨g,0,none⟩) (L+1) d,0,O,t,q,N,y⟩,(H.o.more HX.o [b] _ _ g d (m.setIfInBounds L (.int .u8 b.toNat)) ?_ (by rw [z.o];rfl) ?_ (by simpa using E) (by rw [←z.o];exact X) r (aG ⟨rfl,a5.o,D⟩) ?_ ?_ ?_ rfl rfl rfl rfl rfl),?_⟩
  ·exact aL.set_ne (a:=⟨g,L,none⟩) (show aL _ x.d _ _ from (H.o.dec.set 9 (.int .i8 0)).set 7 (.slice (some ⟨g,0,none⟩) (L+1) d)) W (.int .u8 b.toNat)
  ·exact ((R.set_ne (a:=⟨x.d,9,none⟩) o (.int .i8 0)).set_ne (a:=⟨x.d,7,none⟩) o (.slice (some ⟨g,0,none⟩) (L+1) d)).set L (.int .u8 b.toNat)
  ·intro j C;rw [Array.getElem?_setIfInBounds_ne (by have:=z.o;omega)];exact a6.o j C
  ·intro j C;have:j=0:=by simpa using C
   subst this;rw [←z.o,Array.getElem?_setIfInBounds];have:L<m.size:=by omega
   simp [this]
  ·exact (((aJ.refl _ w).setCell (p:=⟨x.d,9,none⟩) (aG (aG rfl)) (.int .i8 0)).setCell (p:=⟨x.d,7,none⟩) (aG (aG rfl)) (.slice (some ⟨g,0,none⟩) (L+1) d)).setCell (p:=⟨g,L,none⟩) (aG (aU rfl)) (.int .u8 b.toNat)
  ·intro g' l' n Z j C;cases Z;have S:=(((R.set_ne (a:=⟨x.d,9,none⟩) o (.int .i8 0)).set_ne (a:=⟨x.d,7,none⟩) o (.slice (some ⟨g,0,none⟩) (L+1) d)).set L (.int .u8 b.toNat)).cell j;rw [Array.getElem?_setIfInBounds_ne (by have:=z.o;omega)] at S;exact S.trans (R.cell j).symm
 ·have M:=Lh (oV x.d c { v with lastRead:=0 } _ B a l d 1 s X hr r);have a1:=Lh (M5 x HX.o c _ { v with lastRead:=0 } rest e f H9.o 1 (by omega) (by omega) a4 (by omega));obtain ⟨sb,sl,O,t,q,N,y⟩:=v;simp only at s;subst s;have a9:(f.length:Int)≤50000000000000:=by omega
  clear B a4;obtain ⟨L,T⟩:=cK f.length;have z:=Lh T;rw [←T] at a1 aA a9;clear T;go_enter func70,ntmps70
  go_wp2_with fail;refine M.o.mono ?_;rintro e1 w1 ⟨rfl,rfl⟩;go_wp2_with fail;refine a1.o.mono ?_;rintro e1 w1 ⟨rfl,g,n,m,P⟩;have a2:(L:Int)<(L:Int)+1:=by omega
  have a0:=P.dec;have G:bR w1 x.d c ⟨.slice (some ⟨g,0,none⟩) (L+1) n,0,O,t,q,N,y⟩:=by rw [z.o];exact a0
  have b5:=G.cell;have b6:=aL.frozen G;have bA:=P.blk.cell;have bC:=P.blk.frozen;have aC:L+1≤n:=by rw [z.o];exact P.cp
  have E:=P.sz;have A:∃ u,m[L]?=some u:=by
   have:L<m.size:=by omega
   exact ⟨_,Array.getElem?_eq_getElem this⟩
  obtain ⟨u,hu⟩:=A;have o:g≠x.d:=fun e=>by
   have S:=aL.lt H9.o.dec;have h2:=P.new;omega
  have W:x.d≠g:=fun e=>o e.symm;have ⟨F,HD⟩:=cB P G;clear P a0 G hc hf;go_wp2;go_ret
  have Q:(w.setCell ⟨x.d,9,none⟩ (.int .i8 0)).heap.size=w.heap.size:=by simp [World.setCell]
  refine ⟨by trivial,⟨.slice (some ⟨g,0,none⟩) (L+1) n,0,O,t,q,N,y⟩,(H.o.more HX.o [b] _ _ g n (m.setIfInBounds L (.int .u8 b.toNat)) ?_ (by rw [z.o];rfl) ?_ (by simpa using E) (by rw [←z.o];exact aC) F.o.cm (aU (by have:=F.o.new;omega)) ?_ ?_ ?_ rfl rfl rfl rfl rfl),?_⟩
  ·exact aL.set_ne (a:=⟨g,L,none⟩) (show aL _ x.d _ _ from HD.o) W (.int .u8 b.toNat)
  ·exact F.o.blk.set L (.int .u8 b.toNat)
  ·intro j C;rw [Array.getElem?_setIfInBounds_ne (by have:=z.o;omega)];exact F.o.el j C
  ·intro j C;have:j=0:=by simpa using C
   subst this;rw [←z.o,Array.getElem?_setIfInBounds];have:L<m.size:=by omega
   simp [this]
  ·refine aJ.setCell ?_ (p:=⟨g,L,none⟩) (aU (by have:=F.o.new;show w.heap.size≤g;omega)) (.int .u8 b.toNat);exact a7.o.trans F.o.mod (fun i _ hi=>aG hi)
  ·intro g' l' n Z j C;have a8:=H.o.bf;rcases a8 with ⟨S,h2⟩|⟨g0,cap0,arr0,S,h2,_,_,_,_,h7,_⟩
   ·rw [h2] at C;simp at C
   ·simp only at S Z;rw [S] at Z;simp only [Value.slice.injEq,jW,Addr.mk.injEq] at Z;obtain ⟨⟨b0,_⟩,_⟩:=Z;subst b0;have b1:=h2.lt;have a3:g0≠x.d:=fun e=>h7 (aG e);have b2:g0≠g:=fun e=>by
     have:=F.o.new;rw [Q] at this;omega
    refine sR ?_ j;rw [fT _ _ _ _ b2];have hm:=F.o.mod.block g0 (by rw [Q];exact b1) a3;rw [hm];exact fT w ⟨x.d,9,none⟩ _ g0 a3
theorem fW (x:Cx) (j:x.Ok) (c:DC) (w:World) (v:DV) (rest:Bs) (e:Option EK) (a:Bs) (h:cA x c w v rest e a) (b:UInt8) (d:a.length≤50000000000000) :
  Calls prog 70 #[.pointer (some ⟨x.d,7,none⟩),.int .u8 b.toNat] w fun f w'=>f=.returned .nilIface∧∃ v',cA x c w' v' rest e (a++[b])∧v'.nb=v.nb∧cN x w v w' v':=
 (fV x j c w v rest e a h b d).mono fun _ _ ⟨i,v',g,_⟩=>⟨i,v',g⟩
theorem IK (a:Array Value) (l n:Nat) (b:Bs) (f:n=b.length) (c:l+n≤a.size) (j:Nat) (d:j<l):(a.toList.take l++Lib.byteCells b++a.toList.drop (l+n)).toArray[j]?=a[j]?:=by
 have e:(a.toList.take l).length=l:=by simp;omega
 simp only [List.getElem?_toArray,rG];rw [List.getElem?_append_left (by omega),List.getElem?_take,aY d,Array.getElem?_toList]
theorem IL (a:Array Value) (l n:Nat) (b:Bs) (f:n=b.length) (c:l+n≤a.size) (j:Nat) (d:j<b.length):(a.toList.take l++Lib.byteCells b++a.toList.drop (l+n)).toArray[l+j]?=some (.int .u8 (b.getD j 0).toNat):=by
 have e:(a.toList.take l).length=l:=by simp;omega
 simp only [List.getElem?_toArray,rG];rw [CQ (by omega),e,Nat.add_sub_cancel_left,List.getElem?_append_left (by rw [Lib.byteCells_length];exact d)];simp [Lib.byteCells,rF,List.getElem?_eq_getElem d]
theorem CZ (a:Array Value) (l n:Nat) (b:Bs) (d:n=b.length) (c:l+n≤a.size):(a.toList.take l++Lib.byteCells b++a.toList.drop (l+n)).toArray.size=a.size:=by
 simp only [List.size_toArray,fP,pI,eC,Array.length_toList,Lib.byteCells_length];omega
theorem mH (s:ByteArray):s.size=s.data.toList.length:=rfl
def cS (v:DV):Prop:=∃ k,dU v.bufv k
theorem cA.more' {x:Cx} (B:x.Ok) {c:DC} {w:World} {v:DV} {rest:Bs} {e:Option EK} {a:Bs} (h:cA x c w v rest e a) (f:Bs) (w':World) (v':DV) (g d:Nat) (b:Array Value)
  (m:bR w' x.d c v') (i:v'.bufv=.slice (some ⟨g,0,none⟩) (a.length+f.length) d) (l:aL w' g b 5) (C:b.size=d) (p:a.length+f.length≤d) (o:d≤9223372036854775807)
  (z:(dU v.bufv g∧x.B≤g∧¬ x.S0 g)∨w.heap.size≤g) (q:∀ j,j<a.length→b[j]?=some (.int .u8 (a.getD j 0).toNat)) (n:∀ j,j<f.length→b[a.length+j]?=some (.int .u8 (f.getD j 0).toNat))
  (A:aJ (fun k=>k=x.d∨dU v.bufv k) w w') (r:v'.nb=v.nb) (s:v'.err=v.err) (t:v'.line=v.line) (u:v'.lstart=v.lstart) (y:v'.off=v.off) :
  (cA x c w' v' rest e (a++f)∧v'.nb=v.nb∧cN x w v w' v')∧cS v':=
 ⟨h.more B f w' v' g d b m i l C p o z q n A r s t u y,g,by rw [i];rfl⟩
theorem y8 (x:Cx) (hx:x.Ok) (c:DC) (w:World) (v:DV) (rest:Bs) (e:Option EK) (b:Bs) (h:cA x c w v rest e b) (a8:v.bufv≠.slice none 0 0) (s:ByteArray) (hs:s.size≤1000000000000) (b4:b.length≤50000000000000) :
  Calls prog 98 #[.pointer (some ⟨x.d,7,none⟩),.string s] w fun en w'=>en=.returned (.tuple #[.int .i64 s.size,.nilIface])∧∃ v',(cA x c w' v' rest e (b++s.data.toList)∧v'.nb=v.nb∧cN x w v w' v')∧cS v':=by
 have HX:=Lh hx;have z:bR (w.setCell ⟨x.d,9,none⟩ (.int .i8 0)) x.d c { v with lastRead:=0 }:=h.dec.set 9 (.int .i8 0);have U:aJ (fun k=>k=x.d∨dU v.bufv k) w (w.setCell ⟨x.d,9,none⟩ (.int .i8 0)):=(aJ.refl _ w).setCell (aG (aG rfl)) _;have aC:∀ k,dU v.bufv k→k≠x.d:=fun k hk e=>h.bf.notS0 k hk (aG e);have h9:cA x c (w.setCell ⟨x.d,9,none⟩ (.int .i8 0)) { v with lastRead:=0 } rest e b:=h.buf hx z U rfl rfl rfl rfl rfl (h.bf.mod ((aJ.refl (fun k=>k=x.d) w).setCell (p:=⟨x.d,9,none⟩) (aG rfl) _) aC);rcases h.bf with ⟨I,hb⟩|⟨g,d,arr,I,W,a9,hl,T,Q,A,E⟩
 ·exact absurd I a8
 clear a8;have F:aL (w.setCell ⟨x.d,9,none⟩ (.int .i8 0)) g arr 5:=W.set_ne (a:=⟨x.d,9,none⟩) (fun e=>A (aG e)) _;have S:b.length+s.size≤d∨d<b.length+s.size:=by omega
 have ⟨H,H9,b0⟩:=kV h h9 U;have hc:=h.dec.cell;have hf:=h.dec.frozen;have Z:(0:Int)≤(b.length:Int):=by omega
 have c5:(0:Int)≤(s.size:Int):=by omega
 have b1:x.d≠g:=fun e=>A (aG e.symm);have n:g≠x.d:=fun e=>A (aG e);have aA:(b.length:Int)≤50000000000000:=by omega
 have c6:(s.size:Int)≤1000000000000:=by omega
 have ⟨Y,HG,X⟩:=kV E W Q;clear h h9 U aC hx;rcases S with V|V
 ·have t:=Lh (uY x.d c { v with lastRead:=0 } _ z g b.length d s.size I V T);have cT:=W.cell;have c2:=W.frozen;obtain ⟨sb,sl,C,o,m,B,q⟩:=v;simp only at I;subst I
  have l:=Lib.run_copy_row_string (P:=prog) ((w.setCell ⟨x.d,9,none⟩ (.int .i8 0)).setCell ⟨x.d,7,none⟩ (.slice (some ⟨g,0,none⟩) (b.length+s.size) d)) 81 9 3 5 g b.length s.size (d-b.length) s arr 5 underlying81 pQ
   (F.set_ne (a:=⟨x.d,7,none⟩) n _) (dF _) (by omega)
  obtain ⟨L,R⟩:=cK b.length;have r:=Lh R;rw [←R] at hc t Z hl l V aA;have c3:(L:Int)+(s.size:Int)≤(d:Int):=by omega
  have b2:(L:Int)≤(L:Int)+(s.size:Int):=by omega
  have b3:(L:Int)+(s.size:Int)≤100000000000000:=by omega
  clear R W E z Q F;by_cases a0:d=L
  ·have hz:s.size=0:=by omega
   have bC:=fun (w:World) (a:Addr)=>Lib.run_copy_empty_string (P:=prog) w 81 9 3 5 (some a) 0 0 s underlying81 (by rw [Option.isSome_map];kernel_rfl) hz;have HZ:=Lh hz;rw [hz] at t;have b7:=Lh a0;clear l hz;have b6:s.size=0:=HZ.o;go_enter func98,ntmps98
   go_wp2_with fail;refine t.o.mono ?_;rintro e1 w1 ⟨rfl,rfl⟩;go_wp2;go_ret2
   have M:aL w g arr 5:=HG.o;have N:s.data.toList=[]:=wC HZ.o;refine ⟨by rw [HZ.o];rfl,⟨.slice (some ⟨g,0,none⟩) L L,0,C,o,m,B,q⟩,H.o.more' HX.o s.data.toList _ _ g L arr ?_ (by rw [r.o,N];rfl) ?_ (by omega) (by rw [←r.o,N];simp) (by omega) (aG ⟨rfl,X.o,A⟩) Y.o (by rw [N];simp) ?_ rfl rfl rfl rfl rfl⟩
   ·exact (H.o.dec.set 9 (.int .i8 0)).set 7 (.slice (some ⟨g,0,none⟩) L L)
   ·exact (M.set_ne (a:=⟨x.d,9,none⟩) n (.int .i8 0)).set_ne (a:=⟨x.d,7,none⟩) n (.slice (some ⟨g,0,none⟩) L L)
   ·exact (((aJ.refl _ w).setCell (p:=⟨x.d,9,none⟩) (aG (aG rfl)) (.int .i8 0)).setCell (p:=⟨x.d,7,none⟩) (aG (aG rfl)) (.slice (some ⟨g,0,none⟩) L L))
  ·have a1:(L:Int)<(d:Int):=by omega
   rw [rG] at l;go_enter func98,ntmps98
   go_wp2_with fail;refine t.o.mono ?_;rintro e1 w1 ⟨rfl,rfl⟩;go_wp2;go_ret2
   have M:aL w g arr 5:=HG.o
   refine ⟨rfl,⟨.slice (some ⟨g,0,none⟩) (L+s.size) d,0,C,o,m,B,q⟩,H.o.more' HX.o s.data.toList _ _ g d (arr.toList.take L++Lib.byteCells s.data.toList++arr.toList.drop (L+s.size)).toArray ?_ (by rw [r.o];rfl) ?_
    (by rw [CZ _ _ _ _ (mH s) (by omega)];exact a9) (by rw [←r.o];exact V) T (aG ⟨rfl,X.o,A⟩)
    (fun j G=>by rw [IK _ _ _ _ (mH s) (by omega) _ (by rw [r.o];exact G)];exact Y.o j G) (fun j G=>by rw [←r.o,IL _ _ _ _ (mH s) (by omega) _ G]) ?_ rfl rfl rfl rfl rfl⟩
   ·exact aL.row_ne (show aL _ x.d _ _ from (H.o.dec.set 9 (.int .i8 0)).set 7 (.slice (some ⟨g,0,none⟩) (L+s.size) d)) b1 _
   ·rw [rG];exact ((M.set_ne (a:=⟨x.d,9,none⟩) n (.int .i8 0)).set_ne (a:=⟨x.d,7,none⟩) n (.slice (some ⟨g,0,none⟩) (L+s.size) d)).row _
   ·exact (((aJ.refl _ w).setCell (p:=⟨x.d,9,none⟩) (aG (aG rfl)) (.int .i8 0)).setCell (p:=⟨x.d,7,none⟩) (aG (aG rfl)) (.slice (some ⟨g,0,none⟩) (L+s.size) d)).setRow (g:=g) (aG (aU rfl)) _
 ·have t:=Lh (oV x.d c { v with lastRead:=0 } _ z (some ⟨g,0,none⟩) b.length d s.size I hl V T);have a7:=Lh (zX x HX.o c _ { v with lastRead:=0 } rest e b H9.o g d arr I F a9 hl E s.size (by omega) V (by omega));obtain ⟨sb,sl,C,o,m,B,q⟩:=v;simp only at I;subst I;clear z W F E Q;obtain ⟨L,R⟩:=cK b.length;have r:=Lh R;rw [←R] at a7 Z aA hc V hl;clear R;have b3:(L:Int)+(s.size:Int)≤100000000000000:=by omega
  have b2:(L:Int)≤(L:Int)+(s.size:Int):=by omega
  go_enter func98,ntmps98
  go_wp2_with fail;refine t.o.mono ?_;rintro e1 w1 ⟨rfl,rfl⟩;go_wp2_with fail;refine a7.o.mono ?_;rintro e1 w1 ⟨rfl,O,f,y,J⟩;have a4:=J.dec;have D:bR w1 x.d c ⟨.slice (some ⟨O,0,none⟩) (L+s.size) f,0,C,o,m,B,q⟩:=by rw [r.o];exact a4
  have b9:=D.cell;have c1:=aL.frozen D;have a2:L+s.size≤f:=by rw [r.o];exact J.cp
  have bA:=J.sz;have l:=Lib.run_copy_row_string (P:=prog) w1 81 9 3 5 O L s.size (f-L) s y 5 underlying81 pQ J.blk (dF _) (by omega);rw [rG] at l;have a1:(L:Int)<(f:Int):=by omega
  have a0:¬ f=L:=by omega
  have a3:f≤9223372036854775807:=J.cm;have c4:(L:Int)+(s.size:Int)≤(f:Int):=by omega
  have a5:O≠x.d:=fun e=>by
   have h1:=aL.lt H9.o.dec;have h2:=J.new;omega
  have a6:x.d≠O:=fun e=>a5 e.symm;have ⟨u,HD⟩:=cB J D;clear J a4 D hc hf;go_wp2;go_ret2
  have b5:(w.setCell ⟨x.d,9,none⟩ (.int .i8 0)).heap.size=w.heap.size:=by simp [World.setCell]
  refine ⟨rfl,⟨.slice (some ⟨O,0,none⟩) (L+s.size) f,0,C,o,m,B,q⟩,H.o.more' HX.o s.data.toList _ _ O f (y.toList.take L++Lib.byteCells s.data.toList++y.toList.drop (L+s.size)).toArray ?_ (by rw [r.o];rfl) ?_
    (by rw [CZ _ _ _ _ (mH s) (by omega)];exact bA) (by rw [←r.o];exact a2) a3 (aU (by have:=u.o.new;omega))
    (fun j G=>by rw [IK _ _ _ _ (mH s) (by omega) _ (by rw [r.o];exact G)];exact u.o.el j G) (fun j G=>by rw [←r.o,IL _ _ _ _ (mH s) (by omega) _ G]) ?_ rfl rfl rfl rfl rfl⟩
  ·exact aL.row_ne (show aL _ x.d _ _ from HD.o) a6 _
  ·rw [rG];exact u.o.blk.row _
  ·refine aJ.setRow ?_ (g:=O) (aU (by have:=u.o.new;omega)) _;exact b0.o.trans u.o.mod (fun i _ hi=>aG hi)
theorem lY.take {x:Cx} {w:World} {g:Nat} {b:Nat} {a:Bs} {c:Array Value} (n:Nat) (p:n≤a.length) (m:aL w g c 5) (h:c.size=b) (o:a.length≤b) (e:b≤9223372036854775807) (k:x.B≤g) (l:¬ x.S0 g)
  (f:∀ j,j<a.length→c[j]?=some (.int .u8 (a.getD j 0).toNat)):lY x w (.slice (some ⟨g,0,none⟩) n b) (a.take n):=by
 have d:(a.take n).length=n:=by simp;omega
 refine aU ⟨g,b,c,by rw [d],m,h,by omega,e,k,l,fun j i=>?_⟩;rw [d] at i;rw [f j (by omega)];simp [rF,i]
theorem xB (x:Cx) (D:x.Ok) (c:DC) (w:World) (v:DV) (rest:Bs) (e:Option EK) (d:Bs) (h:cA x c w v rest e d) (n:Nat) (S:n≤d.length) :
  Calls prog 75 #[.pointer (some ⟨x.d,7,none⟩),.int .i64 n] w fun X w'=>X=.returned (.tuple #[])∧∃ v',cA x c w' v' rest e (d.take n)∧v'.nb=v.nb∧(∀ k,dU v'.bufv k↔dU v.bufv k)∧aJ x.S0 w w'∧w'.heap.size=w.heap.size:=by
 have Z:=h.dec.cell;have hf:=h.dec.frozen;have O:=Lh (oU x D c w v rest e d h);have r:bR (w.setCell ⟨x.d,9,none⟩ (.int .i8 0)) x.d c { v with lastRead:=0 }:=h.dec.set 9 (.int .i8 0);have t:aJ (fun k=>k=x.d∨dU v.bufv k) w (w.setCell ⟨x.d,9,none⟩ (.int .i8 0)):=(aJ.refl _ w).setCell (aG (aG rfl)) _;have q:∀ k,dU v.bufv k→k≠x.d:=fun k hk e=>h.bf.notS0 k hk (aG e);have I:cA x c (w.setCell ⟨x.d,9,none⟩ (.int .i8 0)) { v with lastRead:=0 } rest e d:=h.buf D r t rfl rfl rfl rfl rfl (h.bf.mod ((aJ.refl (fun k=>k=x.d) w).setCell (p:=⟨x.d,9,none⟩) (aG rfl) _) q);have C:=Lh (zW x c _ _ rest e d I);have aC:(0:Int)≤(n:Int):=by omega
 have E:((n:Int)==0)=true∨((n:Int)==0)=false:=by cases ((n:Int)==0)<;>simp
 have V:=Lh D;rcases E with E|E
 ·have:n=0:=by simpa using E
  clear Z hf h I r t q D;go_enter func75,ntmps75
  go_wp2_with fail;refine O.o.mono ?_;rintro W w1 ⟨rfl,G⟩;have G:=Lh G;go_wp2;(try simp only [Exit.inBlock,Exit.then])
  refine bodyPost_ret (results_none rfl _ _ _) rfl ?_;subst this;exact ⟨rfl,G.o⟩
 ·have a0:n≠0:=by simpa using E
  rcases h.bf with ⟨Q,Y⟩|⟨g,b,arr,Q,R,P,hl,L,B,u,s⟩
  ·subst Y;simp at S;omega
  have aA:x.d≠g:=fun e=>u (aG e.symm);have o:g≠x.d:=fun e=>u (aG e);have ⟨H,U,T⟩:=kV h R s;have J:=Lh (fun (w':World) (M:aL w' g arr 5)=>lY.take (x:=x) n S M P hl L B u s);have h1:(n:Int)≤(d.length:Int):=by omega
  have h2:(d.length:Int)≤(b:Int):=by omega
  have h3:(n:Int)≤(b:Int):=by omega
  have h4:(b:Int)≤9223372036854775807:=by omega
  have hw:IntKind.i64.wrap (n:Int)=n:=IntWalk.i64_in _ (by omega);obtain ⟨sb,sl,z,l,f,y,m⟩:=v;simp only at Q;subst Q;clear h I r t q D R s B;go_enter func75,ntmps75
  go_wp2_with fail;refine C.o.mono ?_;rintro W w1 ⟨rfl,k,rfl⟩;go_wp2;(refine lD [0,0,0,0,1,0,0,0,1,0,1,1,0,0,2] [0,1,2,3,5,6,7,9,4,8,10,11,12,13,14] ?_;refine vP ?_;repeat with_reducible intro nq)
  go_wp2;go_end0
  have hd:bR ((w.setCell ⟨x.d,9,none⟩ (.int .i8 0)).setCell ⟨x.d,7,none⟩ (.slice (some ⟨g,0,none⟩) n b)) x.d c ⟨.slice (some ⟨g,0,none⟩) n b,0,z,l,f,y,m⟩:=(H.o.dec.set 9 (.int .i8 0)).set 7 (.slice (some ⟨g,0,none⟩) n b);have F:aL w g arr 5:=U.o;have N:=(F.set_ne (a:=⟨x.d,9,none⟩) o (.int .i8 0)).set_ne (a:=⟨x.d,7,none⟩) o (.slice (some ⟨g,0,none⟩) n b);have A:aJ (fun k=>k=x.d) w ((w.setCell ⟨x.d,9,none⟩ (.int .i8 0)).setCell ⟨x.d,7,none⟩ (.slice (some ⟨g,0,none⟩) n b)):=((aJ.refl (fun k=>k=x.d) w).setCell (p:=⟨x.d,9,none⟩) (aG rfl) (.int .i8 0)).setCell (p:=⟨x.d,7,none⟩) (aG rfl) (.slice (some ⟨g,0,none⟩) n b);have j:=H.o.buf V.o (v':=⟨.slice (some ⟨g,0,none⟩) n b,0,z,l,f,y,m⟩) hd (A.mono (fun _ _ h=>aG h)) rfl rfl rfl rfl rfl (J.o _ N);refine ⟨rfl,⟨.slice (some ⟨g,0,none⟩) n b,0,z,l,f,y,m⟩,?_,rfl,fun k=>Iff.rfl,?_,?_⟩
  ·exact ⟨⟨j.base.os,j.base.tape,j.base.output,j.base.size,j.base.block⟩,j.dec,j.inp,j.pos,j.err,j.fin,j.bf⟩
  ·exact ⟨A.os,A.tape,A.output,A.size,fun i hi hs=>A.block i hi (fun h=>hs (aG h))⟩
  ·simp [World.setCell]
theorem C0 (b:UInt8):iX b=true↔(65≤b.toNat∧b.toNat≤90)∨(97≤b.toNat∧b.toNat≤122)∨(48≤b.toNat∧b.toNat≤57)∨b.toNat=95∨b.toNat=58∨b.toNat=46∨b.toNat=45:=by
 simp only [iX,Bool.or_eq_true,FI,IC,beq_iff_eq,UInt8.le_iff_toNat_le,←UInt8.toNat_inj];have c:(65:UInt8).toNat=65:=rfl;have d:(90:UInt8).toNat=90:=rfl;have e:(97:UInt8).toNat=97:=rfl;have f:(122:UInt8).toNat=122:=rfl;have g:(48:UInt8).toNat=48:=rfl;have h:(57:UInt8).toNat=57:=rfl;have i:(95:UInt8).toNat=95:=rfl;have j:(58:UInt8).toNat=58:=rfl;have k:(46:UInt8).toNat=46:=rfl;have a:(45:UInt8).toNat=45:=rfl;rw [c,d,e,f,g,h,i,j,k,a];omega
theorem xC (b:UInt8) (w:World):Calls prog 116 #[.int .u8 b.toNat] w fun e w'=>e=.returned (.bool (iX b))∧w=w':=by
 have c:=Lh (C0 b);obtain ⟨n,d⟩:=cK b.toNat;rw [←d] at c ⊢;have i:=Lh d;clear d;have a:n<45∨n=45∨n=46∨n=47∨(48≤n∧n≤57)∨n=58∨(59≤n∧n≤64)∨(65≤n∧n≤90)∨(91≤n∧n≤94)∨n=95∨n=96∨(97≤n∧n≤122)∨123≤n:=by omega
 rcases a with h|h|h|h|h|h|h|h|h|h|h|h|h
 all_goals
  have f:=Lh h;first|have:(65:Int)≤(n:Int):=by omega|have:¬ ((65:Int)≤(n:Int)):=by omega
  first|have:(n:Int)≤90:=by omega|have:¬ ((n:Int)≤90):=by omega
  first|have:(97:Int)≤(n:Int):=by omega|have:¬ ((97:Int)≤(n:Int)):=by omega
  first|have:(n:Int)≤122:=by omega|have:¬ ((n:Int)≤122):=by omega
  first|have:(48:Int)≤(n:Int):=by omega|have:¬ ((48:Int)≤(n:Int)):=by omega
  first|have:(n:Int)≤57:=by omega|have:¬ ((n:Int)≤57):=by omega
  first|have:(((n:Int))==(95))=true:=by (simp;omega)|have:(((n:Int))==(95))=false:=by (simp;omega)
  first|have:(((n:Int))==(58))=true:=by (simp;omega)|have:(((n:Int))==(58))=false:=by (simp;omega)
  first|have:(((n:Int))==(46))=true:=by (simp;omega)|have:(((n:Int))==(46))=false:=by (simp;omega)
  first|have:(((n:Int))==(45))=true:=by (simp;omega)|have:(((n:Int))==(45))=false:=by (simp;omega)
  clear h;go_enter func116,ntmps116
  go_wp2;go_ret
  refine ⟨?_,rfl⟩;have:=f.o
  first
   | (rw [show iX b=true from c.o.2 (by omega)];rfl)
   | (rw [show iX b=false from by
     rw [←Bool.not_eq_true];intro g;have:=c.o.1 g;omega];rfl)
theorem uZ {b:UInt8} (h:(128:Int)≤(b.toNat:Int)):cW b=true:=by
 have a:(128:UInt8).toNat=128:=rfl;simp only [cW,Bool.or_eq_true,IC,UInt8.le_iff_toNat_le,a];exact aG (by omega)
theorem nG {b:UInt8} (h:(b.toNat:Int)<128):cW b=iX b:=by
 have a:(128:UInt8).toNat=128:=rfl;have:¬ (128≤b):=by rw [UInt8.le_iff_toNat_le,a];omega
 simp [cW,this]
theorem cN.s0 {x:Cx} {w w1 w':World} {v a v':DV} (h:cN x w v w1 a) (c:aJ x.S0 w1 w') (b:v'.bufv=a.bufv):cN x w v w' v':=h.trans (c.stp b)
theorem xD (x:Cx) (hx:x.Ok) (c:DC) (a0:hY x c) (w:World) (v:DV) (rest:Bs) (e:Option EK) (g:Bs) (h:cA x c w v rest e g) (G:g.length ≤ 10000000000000) :
    Calls prog 95 #[.pointer (some ⟨x.d,0,none⟩)] w fun en w'=>∃ v',cN x w v w' v' ∧
      (((aD rest).2=[]∧en=.returned (.bool false)∧iQ x c w' v' (bY x.o.fails)) ∨
       ((aD rest).2 ≠ []∧(aD rest).1=[]∧en=.returned (.bool false)∧cA x c w' v' rest none g) ∨
       ((aD rest).2 ≠ []∧(aD rest).1 ≠ []∧en=.returned (.bool true)∧cA x c w' v' (aD rest).2 none (g ++ (aD rest).1))):=by
  have ⟨E,HD,H⟩:=kV hx a0 h;have a1:rest.length ≤ 1000000000:=fQ (h.suf.length_le) hx.len;clear h hx a0;cases rest with
  | nil=>
    have a:=Lh (bN x E.o c HD.o w v e g H.o);go_enter func95,ntmps95
    go_wp2_with fail;refine a.o.mono ?_;rintro e1 w1 ⟨rfl,p⟩;have N:=Lh p;clear p;go_wp2;go_ret
    obtain ⟨v1,F,i,m⟩:=N.o;exact ⟨v1,m.stp i,aG ⟨rfl,rfl,F⟩⟩
  | cons b r=>
    have a:=Lh (bK x E.o c HD.o w v b r e g H.o);have o:=Lh H.o.suf;have a5:=Lh (xC b);by_cases d:cW b=true
    · have l:((128:Int) ≤ (b.toNat:Int)) ∨ ((b.toNat:Int) < 128∧iX b=true):=by
        rcases Int.lt_or_le (b.toNat:Int) 128 with h|h
        · exact aU ⟨h,by rw [← nG h];exact d⟩
        · exact aG h
      have D:=Lh (show (aD (b :: r)).1=b :: (aD r).1 by simp [aD,d]);have X:=Lh (show (aD (b :: r)).2=(aD r).2 by simp [aD,d]);clear d;have a6:r.length ≤ 1000000000:=by simp at a1;omega
      have ⟨b2,C⟩:=cB a6 G;clear a1 G a6;rcases l with c2|⟨a2,aC⟩
      all_goals
        go_enter func95,ntmps95
        go_wp2_with fail;refine a.o.mono ?_;rintro e1 w1 ⟨rfl,v1,F,A,i,m,R⟩;have s:=Lh (fW x E.o c w1 v1 r none g F b (by have:=C.o;omega));have ⟨t,y⟩:=cB i m;clear F i m R A a;go_wp2_with fail
        try
          refine (a5.o _).mono ?_;rintro e2 w2 ⟨rfl,rfl⟩;go_wp2_with fail
        refine s.o.mono ?_;rintro e3 w3 ⟨rfl,v3,h3,a3,bA⟩;have b3:=Lh ((y.o.stp t.o).trans bA);have H3:=Lh h3;clear h3 a3 bA s t y;go_wp2;go_loopg [2,3] r.length (fun k _ _ wr=>∃ v4 T pre,T.length=k∧cN x w v wr v4∧cA x c wr v4 T none (g ++ pre)∧pre.length + T.length=r.length + 1∧(aD (b :: r)).1=pre ++ (aD T).1∧(aD (b :: r)).2=(aD T).2)
        case atStart=>exact ⟨v3,r,[b],rfl,b3.o,H3.o,by simp;omega,D.o,X.o⟩
        case round=>
          obtain ⟨v4,T,pre,hk,bC,h4,a9,a7,a8⟩:=hrel;have ⟨HK,O,V,U,M,H4⟩:=gT hk bC a9 a7 a8 h4;clear hk bC a9 a7 a8 h4;cases T with
          | nil=>
            have a:=Lh (bN x E.o c HD.o wr v4 none _ H4.o);go_wp2_with fail;refine a.o.mono ?_;rintro e1 w1 ⟨rfl,p⟩;have N:=Lh p;clear p;go_wp2;(try simp only [Exit.inBlock,Exit.then])
            go_ret
            obtain ⟨v5,P,j,n⟩:=N.o;exact ⟨v5,O.o.s0 n j,aG ⟨M.o,rfl,P⟩⟩
          | cons f r5=>
            have a:=Lh (bK x E.o c HD.o wr v4 f r5 none _ H4.o);have o:=Lh H4.o.suf;have J:=Lh (xC f);by_cases d:cW f=true
            · have l:((128:Int) ≤ (f.toNat:Int)) ∨ ((f.toNat:Int) < 128∧iX f=true):=by
                rcases Int.lt_or_le (f.toNat:Int) 128 with h|h
                · exact aU ⟨h,by rw [← nG h];exact d⟩
                · exact aG h
              have Z:=Lh (show (aD (f :: r5)).1=f :: (aD r5).1 by simp [aD,d]);have aA:=Lh (show (aD (f :: r5)).2=(aD r5).2 by simp [aD,d]);clear d;rcases l with c1|⟨I,Q⟩
              all_goals
                go_wp2_with fail;refine a.o.mono ?_;rintro e1 w1 ⟨rfl,v5,P,B,j,n,S⟩;have s:=Lh (fW x E.o c w1 v5 r5 none _ P f (by
                  have F:=C.o;have h2:=V.o;have h3:=b2.o;simp at h2 ⊢;omega))
                have ⟨u,z⟩:=cB j n;clear P j n S B a;go_wp2_with fail
                try
                  refine (J.o _).mono ?_;rintro e2 w2 ⟨rfl,rfl⟩;go_wp2_with fail
                refine s.o.mono ?_;rintro e3 w3 ⟨rfl,v6,h6,a4,b0⟩;have b5:=Lh ((O.o.s0 z.o u.o).trans b0);have H6:=Lh h6;clear h6 a4 b0 s u z;go_wp2;go_roundg r5.length
                case measure=>have:=HK.o;simp at this;omega
                case rel=>exact ⟨v6,r5,pre ++ [f],rfl,b5.o,by rw [← rG];exact H6.o,by have:=V.o;simp at this ⊢;omega,by rw [U.o,Z.o];simp,by rw [M.o,aA.o]⟩
            · have I:(f.toNat:Int) < 128:=by
                rcases Int.lt_or_le (f.toNat:Int) 128 with h|h
                · exact h
                · exact absurd (uZ h) d
              have Q:iX f=false:=by rw [← nG I];simpa using d
              have Y:=Lh (show aD (f :: r5)=([],f :: r5) by simp [aD,d]);clear d;go_wp2_with fail;refine a.o.mono ?_;rintro e1 w1 ⟨rfl,v5,P,B,j,n,S⟩;have q:=Lh (gG x E.o c w1 v5 f r5 _ P B o.o);have ⟨u,z⟩:=cB j n;clear P j n S B a;go_wp2_with fail;refine (J.o _).mono ?_;rintro e2 w2 ⟨rfl,rfl⟩;go_wp2_with fail;refine q.o.mono ?_;rintro e3 w3 ⟨rfl,p⟩;have N:=Lh p;clear p q;go_wp2;(try simp only [Exit.inBlock,Exit.then])
              go_ret
              obtain ⟨v6,h6,a4,b7,cT,c4⟩:=N.o;have L:(aD (b :: r)).2=f :: r5:=by rw [M.o,Y.o]
              have b1:(aD (b :: r)).1=pre:=by rw [U.o,Y.o];simp
              refine ⟨v6,(O.o.s0 z.o u.o).s0 cT b7,aU (aU ⟨by rw [L];simp,by rw [D.o];simp,rfl,?_⟩)⟩;rw [L,b1];exact h6
    · have a2:(b.toNat:Int) < 128:=by
        rcases Int.lt_or_le (b.toNat:Int) 128 with h|h
        · exact h
        · exact absurd (uZ h) d
      have aC:iX b=false:=by rw [← nG a2];simpa using d
      have W:=Lh (show aD (b :: r)=([],b :: r) by simp [aD,d]);clear d;go_enter func95,ntmps95
      go_wp2_with fail;refine a.o.mono ?_;rintro e1 w1 ⟨rfl,v1,F,A,i,m,R⟩;have q:=Lh (gG x E.o c w1 v1 b r g F A o.o);have ⟨t,y⟩:=cB i m;clear F i m R A a;go_wp2_with fail;refine (a5.o _).mono ?_;rintro e2 w2 ⟨rfl,rfl⟩;go_wp2_with fail;refine q.o.mono ?_;rintro e3 w3 ⟨rfl,p⟩;have N:=Lh p;clear p q;go_wp2;go_ret
      obtain ⟨v3,h3,a3,b6,b9,c3⟩:=N.o;exact ⟨v3,(y.o.stp t.o).s0 b9 b6,aU (aG ⟨by rw [W.o];simp,by rw [W.o],rfl,h3⟩)⟩
theorem eG {p:Prop} (H:p:=by first|kernel_rfl|(intro w;kernel_rfl)|(intro w;rfl)|decide):p:=H
def VC:Go.Shelf.Ren:=⟨fun|32=>99|49=>120|n=>n,
 fun|0=>0|3=>3|4=>4|5=>5|21=>21|25=>176|30=>81|33=>188|66=>253|68=>255|69=>256|n=>n,
 fun|2=>6|3=>7|n=>n⟩
theorem RE:Go.Proofs.Lays7.n32 prog VC:={
 mixed:=eG,
 f32:=eG,
 f49:=eG,
 t0:=eG,
 a0:=eG,
 z0:=eG,
 v0:=eG,
 i0:=eG,
 t3:=eG,
 a3:=eG,
 z3:=eG,
 v3:=eG,
 i3:=eG,
 t4:=eG,
 a4:=eG,
 z4:=eG,
 v4:=eG,
 i4:=eG,
 t5:=eG,
 a5:=eG,
 z5:=eG,
 v5:=eG,
 i5:=eG,
 t21:=eG,
 a21:=eG,
 z21:=eG,
 v21:=eG,
 i21:=eG,
 t25:=eG,
 a25:=eG,
 z25:=eG,
 v25:=eG,
 i25:=eG,
 t30:=eG,
 a30:=eG,
 z30:=eG,
 v30:=eG,
 i30:=eG,
 t33:=eG,
 a33:=eG,
 z33:=eG,
 v33:=eG,
 i33:=eG,
 t66:=eG,
 a66:=eG,
 z66:=eG,
 t68:=eG,
 a68:=eG,
 z68:=eG,
 v68:=eG,
 i68:=eG,
 t69:=eG,
 a69:=eG,
 z69:=eG,
 v69:=eG,
 i69:=eG,
 g2:=eG,
 g3:=eG }
theorem BL (s:ByteArray) (b a c:Nat) (w:World) (d:Lib.Utf8Tabs 6 7 w) (f:∀ j,j<s.size→w.cell? ⟨b,a+j,none⟩=some (.int .u8 (s.get! j).toNat)) :
  Calls prog 99 #[.slice (some ⟨b,a,none⟩) s.size c] w fun e w'=>e=.returned (.tuple #[.int .i32 (Lib.decodeGo s).1,.int .i64 (Lib.decodeGo s).2])∧Below w.heap.size w w':=
 Any7.utf8_DecodeRune RE s b a c w d f
def rZ (P:Program) (b:Array Oper):List Oper→Act→World→Option (Act×World)
 | [],a,w=>some (a,w)
 | o::l,a,w=>
  if Region.wanted o (yielded b a.tmps) then
   match (execOp a.eval o).run P w with
   | .ok (.value v) w'=>rZ P b l (a.put o.dst v) w'
   | .ok .skip w'=>rZ P b l (a.put o.dst undef) w'
   | _=>none
  else rZ P b l (a.put o.dst undef) w
theorem oW {P:Program} {c:Array Oper} {Q:Exit→Act→World→Prop}:∀ (l:List Oper) (a:Act) (w:World) (r:Act×World),rZ P c l a w=some r→Q .normal r.1 r.2→wpList P c Q l a w
 | [],a,w,r,h,b=>by simp only [rZ,jW] at h;subst h;exact b
 | o::l,a,w,r,h,b=>by
  unfold rZ at h;unfold wpList;split at h
  ·rename_i d;rw [aY d];refine aG ?_;unfold Oper.wp;generalize (execOp a.eval o).run P w=res at *;cases res with
   | ok n w'=>
    cases n<;>simp only [Oper.upon]<;>simp only [reduceCtorEq] at h
    ·exact oW l _ _ r h b
    ·exact oW l _ _ r h b
   | halt x w'=>simp only [reduceCtorEq] at h
  ·rename_i d;rw [aQ d];exact oW l _ _ r h b
def fM (P:Program):Code→Act→World→Option (Bool×Act×World)
 | .skip,a,w=>some (false,a,w)
 | .region _ ops false,a,w=>(rZ P ops ops.toList a w).map fun r=>(false,r.1,r.2)
 | .seq x y,a,w=>match fM P x a w with
  | some (false,a',w')=>fM P y a' w'
  | r=>r
 | .ret,a,w=>some (true,a,w)
 | _,_,_=>none
theorem BM {P:Program}:∀ (c:Code) (Q:Exit→Act→World→Prop) (a:Act) (w:World) (r:Bool×Act×World),fM P c a w=some r→Q (if r.1 then .ret else .normal) r.2.1 r.2.2→c.wp P Q a w
 | .skip,Q,a,w,r,h,d=>by simp only [fM,jW] at h;subst h;exact wp_skip (by simpa using d)
 | .ret,Q,a,w,r,h,d=>by simp only [fM,jW] at h;subst h;exact wp_ret (by simpa using d)
 | .region id ops false,Q,a,w,r,h,d=>by
  simp only [fM,Option.map_eq_some_iff] at h;obtain ⟨s,g,rfl⟩:=h;have:=oW (Q:=Q) ops.toList a w s g (by simpa using d);exact wp_region_list this
 | .seq x y,Q,a,w,r,h,d=>by
  unfold fM at h;split at h
  ·rename_i f w' e;exact wp_seq (BM x _ a w _ e (by simpa [Exit.then] using BM y Q f w' r h d))
  ·rename_i e;obtain ⟨b,f,w'⟩:=r;cases b with
   | false=>exact absurd h (e _ _)
   | true=>exact wp_seq (BM x _ a w _ h (by simpa [Exit.then] using d))
 | .region id ops true,Q,a,w,r,h,d=>by simp [fM] at h
 | .cond ..,_,_,_,_,h,_=>by simp [fM] at h
 | .block ..,_,_,_,_,h,_=>by simp [fM] at h
 | .loop ..,_,_,_,_,h,_=>by simp [fM] at h
 | .rangeFunc ..,_,_,_,_,h,_=>by simp [fM] at h
 | .exit ..,_,_,_,_,h,_=>by simp [fM] at h
 | .scope ..,_,_,_,_,h,_=>by simp [fM] at h
 | .label ..,_,_,_,_,h,_=>by simp [fM] at h
 | .goto ..,_,_,_,_,h,_=>by simp [fM] at h
 | .refuse ..,_,_,_,_,h,_=>by simp [fM] at h
theorem zY {P:Program} {f:FuncId} {fn:Func} {c:Code} {d:Array Value} {w w':World} {v:Value} (t:Tmp) (n:P.funcs[f]?=some fn) (m:fn.body=some c) (g:fn.results=#[.tmp t])
  (h:(fM P c { tmps:=d++Array.replicate (fn.ntmps-d.size) undef,defers:=[] } w).map (fun r=>(r.1,r.2.1.tmps.getD t undef,r.2.1.defers.isEmpty,r.2.2))=some (true,v,true,w')) :
  Calls P f d w fun e j=>e=.returned v∧j=w':=by
 rw [Option.map_eq_some_iff] at h;obtain ⟨⟨b,a,w1⟩,k,i⟩:=h;simp only [b8] at i;obtain ⟨rfl,i,l,rfl⟩:=i;refine calls_of_wp n m (BM c _ _ w _ k ?_);simp only [if_true];exact bodyPost_ret (results_tmp g _ _ _) (by simpa using l) ⟨by rw [i],rfl⟩
def lE (T:Array Lib.Rg):Array Value:=(T.toList.flatMap fun r=>[Value.int .u16 r.1,.int .u16 r.2.1,.int .u16 r.2.2]).toArray
def oD (T:Lib.RTab) (w:World):World:=(w.alloc (.cells (lE T.r16) 248)).alloc (.cells #[.slice (some ⟨w.heap.size,0,none⟩) T.r16.size T.r16.size,.slice none 0 0,.int .i64 0] 245)
end Go.Proofs.YthapcchcahnfaaaGreatDoor
