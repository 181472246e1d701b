/- Part of the proof that laws.FnWithin returns true for every argument. No conditions. -/
import Derived.Test.YthapcchcahnfaaaGreatDoorQ20
import Derived.Stop.Asserts
import Derived.LoopN
import Derived.Maps.AppendAt
set_option linter.all false
set_option maxHeartbeats 8000000
set_option maxRecDepth 100000
namespace Go.Proofs.YthapcchcahnfaaaGreatDoor
open Go Go.RowKit Go.Proofs.Tryz
theorem O1 (w:World):(binOp .neq 87 (.pointer none) (.pointer none)).run prog w=.ok (.bool false) w:=by kernel_rfl
theorem CA (w:World):(binOp .eql 87 (.pointer none) (.pointer none)).run prog w=.ok (.bool true) w:=by kernel_rfl
theorem O2 (w:World):(binOp .neq 57 .nilIface .nilIface).run prog w=.ok (.bool false) w:=by kernel_rfl
abbrev mW:Value:=.string ⟨#[]⟩
theorem VC (v:Value) (w:World):(Instr.typeAssert (YC v) 57 101 true).run prog w=.ok (.tuple #[.agg #[mW,mW,.slice none 0 0],.bool false]) w:=by kernel_rfl
theorem O3 (v:Value) (w:World):(Instr.typeAssert (YC v) 57 110 true).run prog w=.ok (.tuple #[.agg #[mW,mW],.bool false]) w:=by kernel_rfl
theorem JC (w:World):(binOp .eql 57 .nilIface .nilIface).run prog w=.ok (.bool true) w:=by kernel_rfl
abbrev Be (c:Int) (b h:Bs) (a:Value) (e:Bs) (f d g:Int):Value:=.agg #[.int .i64 c,aB b,aB h,a,aB e,.int .i64 f,.int .i64 d,.int .i64 g]
theorem aJ.drew {w:World} {b:Nat} {cs:Array Value} {t:TypeId} (h:aJ w b cs t):aJ w.drew b cs t:=h
theorem bJ.setCell {w:World} {b c:Nat} {l:Bs} (h:bJ w b c l) {a:Addr} (e:b≠a.block) (u:Value):bJ (w.setCell a u) b c l:=fun j d=>(s6 (eA _ _ _ _ e) _).trans (h j d)
theorem bJ.drew {w:World} {b a:Nat} {l:Bs} (h:bJ w b a l):bJ w.drew b a l:=h
theorem Y4 (v:Value) (w:World):(Instr.typeAssert (YC v) 57 122 true).run prog w=.ok (.tuple #[v,.bool true]) w:=by kernel_rfl
theorem ST (l:Bs) (w:World) (b a c:Nat) (h:bJ w b a l):(convert 122 9 (.slice (some ⟨b,a,none⟩) l.length c)).run prog w=.ok (aB l) w:=
 Lib.run_convert_whole (P:=prog) w 122 5 9 underlying122 underlying5 underlying9 b a ⟨l.toArray⟩ h.toBytes c
abbrev Y5 (x:Cx):Value:=.iface 54 (.pointer (some ⟨x.rd,0,none⟩))
theorem Bf (a:Addr) (w:World):(Instr.typeAssert (.iface 54 (.pointer (some a))) 74 78 true).run prog w=.ok (.tuple #[.nilIface,.bool false]) w:=
 run_typeAssert_lacksB underlying78 (by kernel_rfl) (by kernel_rfl) _ _ w
theorem Bg (a:Addr) (w:World):(Instr.typeAssert (.iface 54 (.pointer (some a))) 74 171 true).run prog w=.ok (.tuple #[.pointer none,.bool false]) w:=by kernel_rfl
theorem WU (w:World):∃ a:Array Value,a.size=4096∧(Instr.makeSlice 81 (.int .i64 4096) (.int .i64 4096)).run prog w=.ok (.slice (some ⟨w.heap.size,0,none⟩) 4096 4096) (w.alloc (.cells a 5)):=by
 obtain ⟨i,d,e,b,c⟩:=info_parts U8;have:=run_make w 81 5 i (.int .u8 0) underlying81 d e .i64 .i64 4096 4096 (by omega) (by omega) (by rw [c];omega) (by omega);rw [b] at this;exact ⟨madeCells #[.int .u8 0] 4096,by simp [size_madeCells],by simpa [Value.cells] using this⟩
def c0 (x:Cx) (a:Nat):DC:=⟨true,.slice none 0 0,.map none,⟨#[]⟩,.iface 171 (.pointer (some ⟨x.br,0,none⟩)),.pointer none,0,.pointer none,false,⟨#[]⟩,⟨#[]⟩,.nilIface,.map (some a)⟩
def v0:DV:=⟨.slice none 0 0,0,-1,.nilIface,1,0,0⟩
structure WV (x:Cx) (w w':World):Prop where
 below:Below w.heap.size w w'
 dec:bU w' x.d (c0 x w.heap.size) v0
 br:aJ w' x.br (iH x 0 0 .nilIface (-1)) 235
 rb:∃ a:Array Value,a.size=4096∧aJ w' x.rb a 5
 map:w'.heap[w.heap.size]?=some (.map #[] 0)
 size:w'.heap.size=w.heap.size+4
theorem EE (x:Cx) (w:World) (h:x.br=w.heap.size) (i:x.rb=w.heap.size+1) :
  Calls prog 86 #[Y5 x] w fun e w'=>e=.returned (.pointer (some ⟨x.br,0,none⟩))∧Below w.heap.size w w'∧aJ w' x.br (iH x 0 0 .nilIface (-1)) 235∧(∃ b:Array Value,b.size=4096∧aJ w' x.rb b 5)∧w'.heap.size=w.heap.size+2:=by
 have o:=fun a w=>Bg a w;obtain ⟨b,c,m⟩:=WU (w.alloc (.cells #[.slice none 0 0,.nilIface,.int .i64 0,.int .i64 0,.nilIface,.int .i64 0,.int .i64 0] 235));have ⟨l,j,k⟩:=lQ c h i;clear c h i;have n:max (4096:Int) 16=4096:=by decide
 go_enter func86,ntmps86
 go_wp2;go_end0
 go_wp2;go_ret
 have d:=j.o;have f:=k.o;refine ⟨?_,((Below.refl _ w).alloc (dC _) _).alloc (by simp) _,?_,⟨b,l.o,?_⟩,by simp⟩
 ·show Ending.returned (.pointer (some ⟨w.heap.size,0,none⟩))=_;rw [d]
 ·rw [d];have g:=(aJ.new w #[.slice (some ⟨w.heap.size+1,0,none⟩) 4096 4096,Y5 x,.int .i64 0,.int .i64 0,.nilIface,.int .i64 (-1),.int .i64 (-1)] 235).alloc (.cells b 5);unfold iH;rw [f];exact g
 ·rw [f];have g:=aJ.new (w.alloc (.cells #[.slice (some ⟨w.heap.size+1,0,none⟩) 4096 4096,Y5 x,.int .i64 0,.int .i64 0,.nilIface,.int .i64 (-1),.int .i64 (-1)] 235)) b 5;simpa using g
theorem CB (x:Cx) (w:World) (u:x.d=w.heap.size+1) (v:x.br=w.heap.size+2) (y:x.rb=w.heap.size+3) :
  Calls prog 23 #[Y5 x] w fun e w'=>e=.returned (bV x)∧WV x w w':=by
 have L:=fun a w=>Bf a w;have I:=@run_makeMap prog;have D:=Lh (fun (w':World) (z:Below w.heap.size w w') (J:w'.heap.size=w.heap.size+2)=>EE x w' (by omega) (by omega));have ⟨A,B,C⟩:=lQ u v y;clear u v y;go_enter func23,ntmps23
 go_wp2_with (first|(go_at_call 46;go_in)|fail);have g:aJ ((w.alloc (.map #[] 0)).alloc (.cells (oW { c0 x w.heap.size with r:=.nilIface } v0) 91)) (w.heap.size+1) (oW { c0 x w.heap.size with r:=.nilIface } v0) 91:=by
  have:=aJ.new (w.alloc (.map #[] 0)) (oW { c0 x w.heap.size with r:=.nilIface } v0) 91;simpa using this
 have h:((w.alloc (.map #[] 0)).alloc (.cells (oW { c0 x w.heap.size with r:=.nilIface } v0) 91)).heap[w.heap.size]?=some (.map #[] 0):=heap_alloc2_old w _ _;have f:Below w.heap.size w ((w.alloc (.map #[] 0)).alloc (.cells (oW { c0 x w.heap.size with r:=.nilIface } v0) 91)):=((Below.refl _ w).alloc (dC _) _).alloc (by simp) _;have b:((w.alloc (.map #[] 0)).alloc (.cells (oW { c0 x w.heap.size with r:=.nilIface } v0) 91)).heap.size=w.heap.size+2:=by simp
 refine (D.o _ f b).mono ?_;rintro F w1 ⟨rfl,d,i,j,k⟩;have c:aJ w1 (w.heap.size+1) _ _:=aJ.mod (S:=fun _=>False) g (aH d _) id;have p:=Lh (show w1.heap[w.heap.size]?=some (.map #[] 0) from (d.block w.heap.size (by rw [b];omega)).trans h);have m:=Lh (f.trans (d.mono (by rw [b];omega)));have s:=Lh (show w1.heap.size=w.heap.size+4 by rw [k,b]);have G:=c.cell;have H:=c.frozen;have ⟨o,n,q⟩:=lQ c i j;clear g h f b d i j k c;go_wp2;go_end0
 go_wp2;go_ret
 have l:=A.o;refine ⟨?_,?_⟩
 ·show _=Ending.returned (.pointer (some ⟨x.d,0,none⟩));rw [l];rfl
 ·refine ⟨m.o.setCell (by show w.heap.size≤w.heap.size+1;omega) _,?_,?_,?_,?_,?_⟩
  ·rw [l];exact (o.o.set 5 (.iface 171 (.pointer (some ⟨x.br,0,none⟩))))
  ·exact n.o.set_ne (a:=⟨w.heap.size+1,5,none⟩) (by have:=B.o;show x.br≠w.heap.size+1;omega) _
  ·obtain ⟨t,E,z⟩:=q.o;exact ⟨t,E,z.set_ne (a:=⟨w.heap.size+1,5,none⟩) (by have:=C.o;show x.rb≠w.heap.size+1;omega) _⟩
  ·rw [eA _ _ _ _ (by show w.heap.size≠w.heap.size+1;omega)];exact p.o
  ·have:=s.o;simpa [World.setCell] using this
abbrev WW (d a:Bool) (c:Value) (b:Bs):Value:=.agg #[.bool d,.bool a,.slice none 0 0,c,aB b]
theorem LL (x:Cx) (w:World) (m c:Bool) (a:Option Addr) (i h:Nat) (b:Bs) (N:x.d=w.heap.size+2) (O:x.br=w.heap.size+3) (P:x.rb=w.heap.size+4) :
  Calls prog 16 #[Y5 x,WW m c (.slice a i h) b] w fun e w'=>e=.returned (bV x)∧Below w.heap.size w w'∧bU w' x.d { c0 x (w.heap.size+1) with strict:=!c,auto:=.slice a i h,space:=⟨b.toArray⟩ } v0∧aJ w' x.br (iH x 0 0 .nilIface (-1)) 235∧(∃ g:Array Value,g.size=4096∧aJ w' x.rb g 5)∧w'.heap[w.heap.size+1]?=some (.map #[] 0):=by
 have l:(w.alloc (.cells #[.bool m,.bool c,.slice none 0 0,.slice a i h,aB b] 32)).heap.size=w.heap.size+1:=by simp
 have B:=Lh (CB x (w.alloc (.cells #[.bool m,.bool c,.slice none 0 0,.slice a i h,aB b] 32)) (by rw [l];omega) (by rw [l];omega) (by rw [l];omega));have V:=Lh (aJ.new w #[.bool m,.bool c,.slice none 0 0,.slice a i h,aB b] 32);have ⟨u,s,T,U⟩:=kY l N O P;clear N O P l;refine eT 51 func16 [_,_] fun f=>?_;simp only [aF];refine vg ?_;intro K hK K hK;refine B.o.mono ?_;rintro e1 w1 ⟨rfl,v⟩;have n:aJ w1 w.heap.size _ _:=aJ.mod (S:=fun _=>False) V.o (aH v.below _) id;have H:=v.dec.cell;have J:=v.dec.frozen;have I:=n.cell;have L:=n.frozen;have ⟨t,C⟩:=cH v n;have M:x.d≠w.heap.size:=by have:=s.o;omega
 clear v n B;(repeat revert K);refine vS ?_;intro K hK;refine cM [3,5] fun f=>?_;go_region_held3 (fun w'=>w'.cell? ⟨w.heap.size,1,none⟩=some (.bool c)∧w'.cell? ⟨w.heap.size,3,none⟩=some (.slice a i h)∧w'.cell? ⟨w.heap.size,4,none⟩=some (aB b)) (go_keep) (fail);clear H J I L;have k:w.heap.size≠x.d:=fun e=>M e.symm;obtain ⟨r,d⟩:=cR ((((w1.setCell ⟨x.d,0,none⟩ (.bool !c)).setCell ⟨x.d,1,none⟩ (.slice a i h)).setCell ⟨x.d,4,none⟩ (.string ⟨b.toArray⟩)).drew);have q:aJ r w.heap.size #[.bool m,.bool c,.slice none 0 0,.slice a i h,aB b] 32:=by
  rw [d];exact ((((show aJ w1 w.heap.size _ _ from C.o).set_ne (a:=⟨x.d,0,none⟩) k (.bool !c)).set_ne (a:=⟨x.d,1,none⟩) k (.slice a i h)).set_ne (a:=⟨x.d,4,none⟩) k (.string ⟨b.toArray⟩)).drew
 have z:bU r x.d { c0 x (w.heap.size+1) with strict:=!c,auto:=.slice a i h,space:=⟨b.toArray⟩ } v0:=by
  rw [d];have Q:=((((show aJ w1 x.d _ _ from t.o.dec).set 0 (.bool !c)).set 1 (.slice a i h)).set 4 (.string ⟨b.toArray⟩));rw [u.o] at Q;exact Q.drew
 have y:Below w.heap.size w r:=by
  rw [d];have hd:=s.o;refine Below.drew ?_;refine Below.setCell ?_ (by show w.heap.size≤x.d;omega) _;refine Below.setCell ?_ (by show w.heap.size≤x.d;omega) _;refine Below.setCell ?_ (by show w.heap.size≤x.d;omega) _;exact ((Below.refl _ w).alloc (dC _) _).trans (t.o.below.mono (by simp))
 have o:aJ r x.br (iH x 0 0 .nilIface (-1)) 235:=by
  rw [d];have j:x.br≠x.d:=by have:=s.o;have:=T.o;omega
  exact (((t.o.br.set_ne (a:=⟨x.d,0,none⟩) j (.bool !c)).set_ne (a:=⟨x.d,1,none⟩) j (.slice a i h)).set_ne (a:=⟨x.d,4,none⟩) j (.string ⟨b.toArray⟩)).drew
 have p:∃ g:Array Value,g.size=4096∧aJ r x.rb g 5:=by
  rw [d];obtain ⟨g,X,Y⟩:=t.o.rb;have j:x.rb≠x.d:=by have:=s.o;have:=U.o;omega
  exact ⟨g,X,(((Y.set_ne (a:=⟨x.d,0,none⟩) j (.bool !c)).set_ne (a:=⟨x.d,1,none⟩) j (.slice a i h)).set_ne (a:=⟨x.d,4,none⟩) j (.string ⟨b.toArray⟩)).drew⟩
 have A:r.heap[w.heap.size+1]?=some (.map #[] 0):=by
  rw [d];have R:=t.o.map;rw [u.o] at R;have j:w.heap.size+1≠x.d:=by have:=s.o;omega
  show (((w1.setCell ⟨x.d,0,none⟩ (.bool !c)).setCell ⟨x.d,1,none⟩ (.slice a i h)).setCell ⟨x.d,4,none⟩ (.string ⟨b.toArray⟩)).heap[w.heap.size+1]?=_;rw [eA _ _ _ _ j,eA _ _ _ _ j,eA _ _ _ _ j];exact R
 rw [←d];clear d;have Z:=q.cell;have aA:=q.frozen;have ⟨E,F,D,G,W⟩:=pI z y o p A;clear q z y o p A;revert K;refine vg ?_;intro K hK;refine wp_loop_once ?_;revert K;refine vg ?_;refine cX ?_;exact ⟨rfl,F.o,E.o,D.o,G.o,W.o⟩
structure Env (w:World):Prop where
 eof:∃ a:Addr,w.cell? ⟨0,0,none⟩=some (m7 a)∧a.block<w.heap.size
 gB:0<w.heap.size
 u8:Lib.Utf8Tabs 6 7 w
 num:nJ w
 numS:8<w.heap.size
 numR:9<w.heap.size
theorem Env.below {w w':World} (h:Env w) (b:Below w.heap.size w w'):Env w':=by
 obtain ⟨a,c,d⟩:=h.eof;exact ⟨⟨a,by rw [b.cell (p:=⟨_,0,none⟩) h.gB];exact c,rS d b.size⟩,rS h.gB b.size,Utf8Tabs_below h.u8 b,h.num.below h.numS h.numR b,rS h.numS b.size,rS h.numR b.size⟩
structure Y6 (w:World) (pcA:Option Addr) (pcN pcC:Nat) (pcs:List Int):Prop where
 n:pcN≤9223372036854775807
 l:pcN≤pcC
 at':0<pcN→∃ pb a:Nat,pcA=some ⟨pb,a,none⟩∧pb<w.heap.size∧∀ j,j<pcN→w.cell? ⟨pb,a+j,none⟩=some (.int .i64 (pcs.getD j 0))
def SU (w:World) (T:Bs) (o:cP) (a:Addr) (b:Option Addr) (d c:Nat) (e:List Int):Cx:=⟨w,T,o,w.heap.size+4,w.heap.size+5,w.heap.size+6,w.heap.size+1,a,b,d,c,e⟩
theorem O4 {w:World} (b:Env w) {T:Bs} (h:T.length≤1000000000) (o:cP) {a:Addr} (i:w.cell? ⟨0,0,none⟩=some (m7 a)) (j:a.block<w.heap.size) {c:Option Addr} {e d:Nat} {f:List Int} (g:Y6 w c e d f):(SU w T o a c e d f).All:=by
 refine ⟨⟨⟨h,?_,?_,?_,?_,?_,?_,?_,?_,?_,?_,i,j,b.gB,g.n,g.l,g.at'⟩,b.u8⟩,b.num,b.numS,b.numR⟩;all_goals (simp only [SU,Cx.B];omega)
theorem Bh {w w1:World} {T:Bs} (u:T.length≤1000000000) {o:cP} {b:Addr} {g:Option Addr} {i h:Nat} {k:List Int} {c:DC} (x:Cx) (l:x=SU w T o b g i h k) (n:Below w.heap.size w w1) (p:bU w1 x.d c v0)
  (d:aJ w1 x.br (iH x 0 0 .nilIface (-1)) 235) (e:∃ a:Array Value,a.size=4096∧aJ w1 x.rb a 5) (f:aJ w1 x.rd (uY x ⟨T.toArray⟩ 0) 56):cD x c w1 v0 T none []:=by
 obtain ⟨a,m,s⟩:=e;have t:(⟨T.toArray⟩:ByteArray).size=T.length:=rfl;refine ⟨by rw [l];exact n,p,⟨T,⟨0,0,0,-1,a,⟨T.toArray⟩,[],d,s,m,f,dC _,by omega,rfl,fun j r=>absurd r (by simp),by simp,by rw [t];omega⟩,aG ⟨rfl,rfl⟩⟩,⟨[],by rw [l];rfl,rfl,rfl,fun _=>rfl,fun q=>absurd q (by decide)⟩,rfl,aG rfl,aG ⟨rfl,rfl⟩⟩
theorem nG.col {x:Cx} {v:DV} {rest:Bs} (d:x.Ok) (h:nG x v rest) (b:v.nb≠10):-1000000000000≤v.off-v.lstart∧v.off-v.lstart≤1000000000000:=by
 obtain ⟨pre,a,j,_,c,_⟩:=h;have e:=c b;have f:=NU pre;have g:pre.length≤x.T.length:=by rw [a];simp
 have i:=d.len;omega
theorem l4.part {x:Cx} {w:World} {v:Value} {b d:Bs} {g c:Nat} (h:l4 x w v b) (a:v=.slice (some ⟨g,0,none⟩) b.length c) (k:d=b.take d.length) (m:d.length≤b.length):bJ w g 0 d∧g<w.heap.size:=by
 rcases h with ⟨e,_⟩|⟨g',cap',arr,e,i,_,_,_,_,_,f⟩
 ·rw [e] at a;cases a
 ·rw [e] at a;simp only [Value.slice.injEq,kQ,Addr.mk.injEq] at a;obtain ⟨⟨rfl,_⟩,_⟩:=a;refine ⟨fun j l=>?_,i.lt⟩;rw [Nat.zero_add,i.cell,f j (by omega)];have:d.getD j 0=b.getD j 0:=by
   rw [k];simp only [rI,List.getElem?_take];rw [aT l]
  rw [this]
theorem SW:(prog.info? 38).map (fun i=>(i.zero,i.size,i.bytes))=some (some (Be 0 [] [] (.slice none 0 0) [] 0 0 0),8,104):=by kernel_rfl
theorem fI {P:Program} {c:Array Oper} {rest:List Oper} {o:Oper} {a:Act} {w w':World} {Q:Exit→Act→World→Prop} (g:o.guard=none) (s x:Operand) (t u:TypeId) (i:o.op=.call { callee:=.builtin .append,args:=#[s,x],argTypes:=#[t,u] }) (d e v':Value)
  (j:a.eval s=d) (k:a.eval x=e) (b:(Builtin.append_ #[t,u] o.type #[d,e]).run P w=.ok v' w') (h:wpList P c Q rest (a.put o.dst v') w'):wpList P c Q (o::rest) a w:=by
 refine wpList_plain g fun K hK=>?_;have f:=hK _ _ h;unfold Oper.wp;simp only [execOp,i,resolve,invoke,builtin];simp [j,k,b,Result.andThen];exact f
def lN (e:Int) (d g:Bs) (b:Value) (f:Bs) (a l c:Int):List Value:=[.int .i64 e,aB d,aB g,b,aB f,.int .i64 a,.int .i64 l,.int .i64 c]
end Go.Proofs.YthapcchcahnfaaaGreatDoor
