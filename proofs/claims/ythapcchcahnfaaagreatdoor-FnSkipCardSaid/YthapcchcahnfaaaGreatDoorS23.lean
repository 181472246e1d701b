/- Part of the proof that laws.FnSkip returns true for every argument. No conditions. -/
import Derived.Test.YthapcchcahnfaaaGreatDoorS19
import Derived.Stop.Asserts
import Derived.LoopN
import Derived.Maps.AppendAt
set_option linter.all false
set_option maxHeartbeats 8000000
set_option maxRecDepth 100000
namespace Go.Proofs.YthapcchcahnfaaaGreatDoor
open Go Go.RowKit Go.Proofs.Tryz
theorem N8 (w:World):(binOp .neq 87 (.pointer none) (.pointer none)).run prog w=.ok (.bool false) w:=by kernel_rfl
theorem B0 (w:World):(binOp .eql 87 (.pointer none) (.pointer none)).run prog w=.ok (.bool true) w:=by kernel_rfl
theorem N9 (w:World):(binOp .neq 57 .nilIface .nilIface).run prog w=.ok (.bool false) w:=by kernel_rfl
abbrev mW:Value:=.string ⟨#[]⟩
theorem OA (v:Value) (w:World):(Instr.typeAssert (XX v) 57 101 true).run prog w=.ok (.tuple #[.agg #[mW,mW,.slice none 0 0],.bool false]) w:=by kernel_rfl
theorem IZ (v:Value) (w:World):(Instr.typeAssert (XX v) 57 110 true).run prog w=.ok (.tuple #[.agg #[mW,mW],.bool false]) w:=by kernel_rfl
theorem I0 (w:World):(binOp .eql 57 .nilIface .nilIface).run prog w=.ok (.bool true) w:=by kernel_rfl
abbrev Ao (c:Int) (b h:Bs) (a:Value) (e:Bs) (f d g:Int):Value:=.agg #[.int .i64 c,aB b,aB h,a,aB e,.int .i64 f,.int .i64 d,.int .i64 g]
theorem aL.drew {w:World} {b:Nat} {cs:Array Value} {t:TypeId} (h:aL w b cs t):aL w.drew b cs t:=h
theorem bJ.setCell {w:World} {b c:Nat} {l:Bs} (h:bJ w b c l) {a:Addr} (e:b≠a.block) (u:Value):bJ (w.setCell a u) b c l:=fun j d=>(sR (fT _ _ _ _ e) _).trans (h j d)
theorem bJ.drew {w:World} {b a:Nat} {l:Bs} (h:bJ w b a l):bJ w.drew b a l:=h
theorem YL (v:Value) (w:World):(Instr.typeAssert (XX v) 57 122 true).run prog w=.ok (.tuple #[v,.bool true]) w:=by kernel_rfl
theorem R4 (l:Bs) (w:World) (b a c:Nat) (h:bJ w b a l):(convert 122 9 (.slice (some ⟨b,a,none⟩) l.length c)).run prog w=.ok (aB l) w:=
 Lib.run_convert_whole (P:=prog) w 122 5 9 underlying122 underlying5 underlying9 b a ⟨l.toArray⟩ h.toBytes c
abbrev YM (x:Cx):Value:=.iface 54 (.pointer (some ⟨x.rd,0,none⟩))
theorem Ap (a:Addr) (w:World):(Instr.typeAssert (.iface 54 (.pointer (some a))) 74 78 true).run prog w=.ok (.tuple #[.nilIface,.bool false]) w:=
 run_typeAssert_lacksB underlying78 (by kernel_rfl) (by kernel_rfl) _ _ w
theorem Aq (a:Addr) (w:World):(Instr.typeAssert (.iface 54 (.pointer (some a))) 74 171 true).run prog w=.ok (.tuple #[.pointer none,.bool false]) w:=by kernel_rfl
theorem VY (w:World):∃ a:Array Value,a.size=4096∧(Instr.makeSlice 81 (.int .i64 4096) (.int .i64 4096)).run prog w=.ok (.slice (some ⟨w.heap.size,0,none⟩) 4096 4096) (w.alloc (.cells a 5)):=by
 obtain ⟨i,d,e,b,c⟩:=info_parts UQ;have:=run_make w 81 5 i (.int .u8 0) underlying81 d e .i64 .i64 4096 4096 (by omega) (by omega) (by rw [c];omega) (by omega);rw [b] at this;exact ⟨madeCells #[.int .u8 0] 4096,by simp [size_madeCells],by simpa [Value.cells] using this⟩
def c0 (x:Cx) (a:Nat):DC:=⟨true,.slice none 0 0,.map none,⟨#[]⟩,.iface 171 (.pointer (some ⟨x.br,0,none⟩)),.pointer none,0,.pointer none,false,⟨#[]⟩,⟨#[]⟩,.nilIface,.map (some a)⟩
def v0:DV:=⟨.slice none 0 0,0,-1,.nilIface,1,0,0⟩
structure VZ (x:Cx) (w w':World):Prop where
 below:Below w.heap.size w w'
 dec:bR w' x.d (c0 x w.heap.size) v0
 br:aL w' x.br (iP x 0 0 .nilIface (-1)) 235
 rb:∃ a:Array Value,a.size=4096∧aL w' x.rb a 5
 map:w'.heap[w.heap.size]?=some (.map #[] 0)
 size:w'.heap.size=w.heap.size+4
theorem DP (x:Cx) (w:World) (h:x.br=w.heap.size) (i:x.rb=w.heap.size+1) :
  Calls prog 86 #[YM x] w fun e w'=>e=.returned (.pointer (some ⟨x.br,0,none⟩))∧Below w.heap.size w w'∧aL w' x.br (iP x 0 0 .nilIface (-1)) 235∧(∃ b:Array Value,b.size=4096∧aL w' x.rb b 5)∧w'.heap.size=w.heap.size+2:=by
 have o:=fun a w=>Aq a w;obtain ⟨b,c,m⟩:=VY (w.alloc (.cells #[.slice none 0 0,.nilIface,.int .i64 0,.int .i64 0,.nilIface,.int .i64 0,.int .i64 0] 235));have ⟨l,j,k⟩:=kV c h i;clear c h i;have n:max (4096:Int) 16=4096:=by decide
 go_enter func86,ntmps86
 go_wp2;go_end0
 go_wp2;go_ret
 have d:=j.o;have f:=k.o;refine ⟨?_,((Below.refl _ w).alloc (dF _) _).alloc (by simp) _,?_,⟨b,l.o,?_⟩,by simp⟩
 ·show Ending.returned (.pointer (some ⟨w.heap.size,0,none⟩))=_;rw [d]
 ·rw [d];have g:=(aL.new w #[.slice (some ⟨w.heap.size+1,0,none⟩) 4096 4096,YM x,.int .i64 0,.int .i64 0,.nilIface,.int .i64 (-1),.int .i64 (-1)] 235).alloc (.cells b 5);unfold iP;rw [f];exact g
 ·rw [f];have g:=aL.new (w.alloc (.cells #[.slice (some ⟨w.heap.size+1,0,none⟩) 4096 4096,YM x,.int .i64 0,.int .i64 0,.nilIface,.int .i64 (-1),.int .i64 (-1)] 235)) b 5;simpa using g
theorem B1 (x:Cx) (w:World) (u:x.d=w.heap.size+1) (v:x.br=w.heap.size+2) (y:x.rb=w.heap.size+3) :
  Calls prog 23 #[YM x] w fun e w'=>e=.returned (bT x)∧VZ x w w':=by
 have L:=fun a w=>Ap a w;have I:=@run_makeMap prog;have D:=Lh (fun (w':World) (z:Below w.heap.size w w') (J:w'.heap.size=w.heap.size+2)=>DP x w' (by omega) (by omega));have ⟨A,B,C⟩:=kV u v y;clear u v y;go_enter func23,ntmps23
 go_wp2_with (first|(go_at_call 46;go_in)|fail);have g:aL ((w.alloc (.map #[] 0)).alloc (.cells (oQ { c0 x w.heap.size with r:=.nilIface } v0) 91)) (w.heap.size+1) (oQ { c0 x w.heap.size with r:=.nilIface } v0) 91:=by
  have:=aL.new (w.alloc (.map #[] 0)) (oQ { c0 x w.heap.size with r:=.nilIface } v0) 91;simpa using this
 have h:((w.alloc (.map #[] 0)).alloc (.cells (oQ { c0 x w.heap.size with r:=.nilIface } v0) 91)).heap[w.heap.size]?=some (.map #[] 0):=heap_alloc2_old w _ _;have f:Below w.heap.size w ((w.alloc (.map #[] 0)).alloc (.cells (oQ { c0 x w.heap.size with r:=.nilIface } v0) 91)):=((Below.refl _ w).alloc (dF _) _).alloc (by simp) _;have b:((w.alloc (.map #[] 0)).alloc (.cells (oQ { c0 x w.heap.size with r:=.nilIface } v0) 91)).heap.size=w.heap.size+2:=by simp
 refine (D.o _ f b).mono ?_;rintro F w1 ⟨rfl,d,i,j,k⟩;have c:aL w1 (w.heap.size+1) _ _:=aL.mod (S:=fun _=>False) g (aH d _) id;have p:=Lh (show w1.heap[w.heap.size]?=some (.map #[] 0) from (d.block w.heap.size (by rw [b];omega)).trans h);have m:=Lh (f.trans (d.mono (by rw [b];omega)));have s:=Lh (show w1.heap.size=w.heap.size+4 by rw [k,b]);have G:=c.cell;have H:=c.frozen;have ⟨o,n,q⟩:=kV c i j;clear g h f b d i j k c;go_wp2;go_end0
 go_wp2;go_ret
 have l:=A.o;refine ⟨?_,?_⟩
 ·show _=Ending.returned (.pointer (some ⟨x.d,0,none⟩));rw [l];rfl
 ·refine ⟨m.o.setCell (by show w.heap.size≤w.heap.size+1;omega) _,?_,?_,?_,?_,?_⟩
  ·rw [l];exact (o.o.set 5 (.iface 171 (.pointer (some ⟨x.br,0,none⟩))))
  ·exact n.o.set_ne (a:=⟨w.heap.size+1,5,none⟩) (by have:=B.o;show x.br≠w.heap.size+1;omega) _
  ·obtain ⟨t,E,z⟩:=q.o;exact ⟨t,E,z.set_ne (a:=⟨w.heap.size+1,5,none⟩) (by have:=C.o;show x.rb≠w.heap.size+1;omega) _⟩
  ·rw [fT _ _ _ _ (by show w.heap.size≠w.heap.size+1;omega)];exact p.o
  ·have:=s.o;simpa [World.setCell] using this
structure Env (w:World):Prop where
 eof:∃ a:Addr,w.cell? ⟨0,0,none⟩=some (m9 a)∧a.block<w.heap.size
 gB:0<w.heap.size
 u8:Lib.Utf8Tabs 6 7 w
 num:nI w
 numS:8<w.heap.size
 numR:9<w.heap.size
theorem Env.below {w w':World} (h:Env w) (b:Below w.heap.size w w'):Env w':=by
 obtain ⟨a,c,d⟩:=h.eof;exact ⟨⟨a,by rw [b.cell (p:=⟨_,0,none⟩) h.gB];exact c,pL d b.size⟩,pL h.gB b.size,Utf8Tabs_below h.u8 b,h.num.below h.numS h.numR b,pL h.numS b.size,pL h.numR b.size⟩
theorem nF.col {x:Cx} {v:DV} {rest:Bs} (d:x.Ok) (h:nF x v rest) (b:v.nb≠10):-1000000000000≤v.off-v.lstart∧v.off-v.lstart≤1000000000000:=by
 obtain ⟨pre,a,j,_,c,_⟩:=h;have e:=c b;have f:=MZ pre;have g:pre.length≤x.T.length:=by rw [a];simp
 have i:=d.len;omega
theorem lY.part {x:Cx} {w:World} {v:Value} {b d:Bs} {g c:Nat} (h:lY x w v b) (a:v=.slice (some ⟨g,0,none⟩) b.length c) (k:d=b.take d.length) (m:d.length≤b.length):bJ w g 0 d∧g<w.heap.size:=by
 rcases h with ⟨e,_⟩|⟨g',cap',arr,e,i,_,_,_,_,_,f⟩
 ·rw [e] at a;cases a
 ·rw [e] at a;simp only [Value.slice.injEq,jW,Addr.mk.injEq] at a;obtain ⟨⟨rfl,_⟩,_⟩:=a;refine ⟨fun j l=>?_,i.lt⟩;rw [Nat.zero_add,i.cell,f j (by omega)];have:d.getD j 0=b.getD j 0:=by
   rw [k];simp only [rF,List.getElem?_take];rw [aY l]
  rw [this]
theorem R5:(prog.info? 38).map (fun i=>(i.zero,i.size,i.bytes))=some (some (Ao 0 [] [] (.slice none 0 0) [] 0 0 0),8,104):=by kernel_rfl
theorem eP {P:Program} {c:Array Oper} {rest:List Oper} {o:Oper} {a:Act} {w w':World} {Q:Exit→Act→World→Prop} (g:o.guard=none) (s x:Operand) (t u:TypeId) (i:o.op=.call { callee:=.builtin .append,args:=#[s,x],argTypes:=#[t,u] }) (d e v':Value)
  (j:a.eval s=d) (k:a.eval x=e) (b:(Builtin.append_ #[t,u] o.type #[d,e]).run P w=.ok v' w') (h:wpList P c Q rest (a.put o.dst v') w'):wpList P c Q (o::rest) a w:=by
 refine wpList_plain g fun K hK=>?_;have f:=hK _ _ h;unfold Oper.wp;simp only [execOp,i,resolve,invoke,builtin];simp [j,k,b,Result.andThen];exact f
def lN (e:Int) (d g:Bs) (b:Value) (f:Bs) (a l c:Int):List Value:=[.int .i64 e,aB d,aB g,b,aB f,.int .i64 a,.int .i64 l,.int .i64 c]
end Go.Proofs.YthapcchcahnfaaaGreatDoor
