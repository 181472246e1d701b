/- Part of the proof that laws.FnSkip returns true for every argument. No conditions. -/
import Derived.Test.YthapcchcahnfaaaGreatDoorProg
import Derived.Test.YthapcchcahnfaaaGreatDoorS01
import Derived.WalkKit
import Derived.WalkLawsBesides
import Derived.WalkSpells
import Derived.Deep.QuietTactic
import Derived.BigQuiet
import Derived.Deep.DeepFit
import Derived.Deep.DeepMust
import Derived.Deep.RegionLaw
import Derived.Lib.Hide
import Derived.Lib.BufferAt
import Derived.Shelf.Abstract
import Derived.Deep.RegionHeld3
set_option linter.all false
set_option maxHeartbeats 8000000
set_option maxRecDepth 100000
namespace Go.Proofs.YthapcchcahnfaaaGreatDoor
open Go Go.RowKit Go.Proofs.Tryz
structure aJ (S:Nat→Prop) (w w':World):Prop where
 os:w'.os=w.os
 tape:w'.tape=w.tape
 output:w'.output=w.output
 size:w.heap.size≤w'.heap.size
 block:∀ k,k<w.heap.size→¬ S k→w'.heap[k]?=w.heap[k]?
theorem aJ.refl (S:Nat→Prop) (w:World):aJ S w w:=⟨rfl,rfl,rfl,dF _,fun _ _ _=>rfl⟩
theorem aJ.trans {S S':Nat→Prop} {a b c:World} (h:aJ S a b) (k:aJ S' b c) (g:∀ i,i<a.heap.size→S' i→S i):aJ S a c:=
 ⟨k.os.trans h.os,k.tape.trans h.tape,k.output.trans h.output,fQ h.size k.size,
  fun i d e=>(k.block i (pL d h.size) (fun f=>e (g i d f))).trans (h.block i d e)⟩
theorem aJ.mono {S S':Nat→Prop} {a b:World} (h:aJ S a b) (f:∀ i,i<a.heap.size→S i→S' i):aJ S' a b:=
 ⟨h.os,h.tape,h.output,h.size,fun i c e=>h.block i c (fun d=>e (f i c d))⟩
theorem aJ.below {S:Nat→Prop} {B:Nat} {c a b:World} (e:Below B c a) (g:B≤a.heap.size) (h:aJ S a b) (f:∀ i,S i→B≤i):Below B c b:=
 e.trans ⟨h.os,h.tape,h.output,h.size,fun i j=>h.block i (by omega) (fun d=>by have:=f i d;omega)⟩
theorem aJ.drew {S:Nat→Prop} {a b:World} (h:aJ S a b):aJ S a b.drew:=⟨h.os,h.tape,h.output,h.size,h.block⟩
theorem aJ.drewN {S:Nat→Prop} {a b:World} (h:aJ S a b) (n:Nat):aJ S a (b.drewN n):=⟨h.os,h.tape,h.output,h.size,h.block⟩
theorem fT (w:World) (a:Addr) (u:Value) (k:Nat) (h:k≠a.block):(w.setCell a u).heap[k]?=w.heap[k]?:=by
 simp only [World.setCell,Array.getElem?_modify];rw [aQ (by omega)]
theorem pP (w:World) (g:Nat) (cs:Array Value) (k:Nat) (h:k≠g):(w.setRow g cs).heap[k]?=w.heap[k]?:=by
 simp only [World.setRow,Array.getElem?_modify];rw [aQ (by omega)]
theorem aJ.setCell {S:Nat→Prop} {a b:World} (h:aJ S a b) {p:Addr} (c:S p.block∨a.heap.size≤p.block) (u:Value):aJ S a (b.setCell p u):=
 ⟨h.os,h.tape,h.output,by simpa [World.setCell] using h.size,fun i f d=>(fT _ _ _ _ (by
  intro e;subst e;rcases c with c|c
  ·exact d c
  ·omega)).trans (h.block i f d)⟩
theorem aJ.setRow {S:Nat→Prop} {a b:World} (h:aJ S a b) {g:Nat} (c:S g∨a.heap.size≤g) (cs:Array Value):aJ S a (b.setRow g cs):=
 ⟨h.os,h.tape,h.output,by simpa [World.setRow] using h.size,fun i f d=>(pP _ _ _ _ (by
  intro e;subst e;rcases c with c|c
  ·exact d c
  ·omega)).trans (h.block i f d)⟩
theorem nP (w:World) (o:Obj) (k:Nat) (h:k<w.heap.size):(w.alloc o).heap[k]?=w.heap[k]?:=Below.heap_alloc w o k h
theorem aJ.alloc {S:Nat→Prop} {a b:World} (h:aJ S a b) (o:Obj):aJ S a (b.alloc o):=
 ⟨h.os,h.tape,h.output,by have:=h.size;simp;omega,fun i c d=>(nP _ _ _ (pL c h.size)).trans (h.block i c d)⟩
def aL (w:World) (b:Nat) (cs:Array Value) (t:TypeId):Prop:=w.heap[b]?=some (.cells cs t (0,0))
theorem aL.lt {w:World} {b:Nat} {cs:Array Value} {t:TypeId} (h:aL w b cs t):b<w.heap.size:=by
 rcases Nat.lt_or_ge b w.heap.size with h'|h'
 ·exact h'
 ·unfold aL at h;simp [Array.getElem?_eq_none h'] at h
theorem aL.cell {w:World} {b:Nat} {cs:Array Value} {t:TypeId} (h:aL w b cs t) (o:Nat):w.cell? ⟨b,o,none⟩=cs[o]?:=by
 unfold World.cell?;unfold aL at h;simp [h]
theorem aL.frozen {w:World} {b:Nat} {cs:Array Value} {t:TypeId} (h:aL w b cs t) (o:Nat):w.frozen? ⟨b,o,none⟩=false:=by
 unfold World.frozen?;unfold aL at h;simp [h]
theorem aL.set {w:World} {b:Nat} {cs:Array Value} {t:TypeId} (h:aL w b cs t) (o:Nat) (v:Value):aL (w.setCell ⟨b,o,none⟩ v) b (cs.setIfInBounds o v) t:=by
 unfold aL at h ⊢;simp [World.setCell,Array.getElem?_modify,h]
theorem aL.set_ne {w:World} {b:Nat} {cs:Array Value} {t:TypeId} (h:aL w b cs t) {a:Addr} (c:b≠a.block) (v:Value):aL (w.setCell a v) b cs t:=
 (fT _ _ _ _ c).trans h
theorem aL.row {w:World} {b:Nat} {cs:Array Value} {t:TypeId} (h:aL w b cs t) (a:Array Value):aL (w.setRow b a) b a t:=by
 unfold aL at h ⊢;simp [World.setRow,Array.getElem?_modify,h]
theorem aL.row_ne {w:World} {b g:Nat} {cs:Array Value} {t:TypeId} (h:aL w b cs t) (c:b≠g) (a:Array Value):aL (w.setRow g a) b cs t:=
 (pP _ _ _ _ c).trans h
theorem aL.alloc {w:World} {b:Nat} {cs:Array Value} {t:TypeId} (h:aL w b cs t) (o:Obj):aL (w.alloc o) b cs t:=(nP _ _ _ h.lt).trans h
theorem aL.new (w:World) (cs:Array Value) (t:TypeId):aL (w.alloc (.cells cs t)) w.heap.size cs t:=by
 unfold aL World.alloc;simp
theorem aL.mod {S:Nat→Prop} {w w':World} {b:Nat} {cs:Array Value} {t:TypeId} (h:aL w b cs t) (a:aJ S w w') (c:¬ S b):aL w' b cs t:=
 (a.block b h.lt c).trans h
structure DC where
 strict:Bool
 auto:Value
 ent:Value
 space:ByteArray
 r:Value
 stk:Value
 depth:Int
 free:Value
 needClose:Bool
 tcs:ByteArray
 tcl:ByteArray
 nextTok:Value
 ns:Value
structure DV where
 bufv:Value
 lastRead:Int
 nb:Int
 err:Value
 line:Int
 lstart:Int
 off:Int
@[go_sem] def oQ (c:DC) (v:DV):Array Value:=#[.bool c.strict,c.auto,c.ent,.nilFunc,.string c.space,c.r,.nilIface,v.bufv,.int .i64 0,.int .i8 v.lastRead,.pointer none,c.stk,.int .i64 c.depth,c.free,.bool c.needClose,.string c.tcs,.string c.tcl,c.nextTok,.int .i64 v.nb,c.ns,v.err,.int .i64 v.line,.int .i64 v.lstart,.int .i64 v.off]
def bR (w:World) (d:Nat) (c:DC) (v:DV):Prop:=aL w d (oQ c v) 91
structure Cx where
 W0:World
 T:Bs
 o:cV
 d:Nat
 br:Nat
 rb:Nat
 rd:Nat
 eofA:Addr
 pcA:Option Addr
 pcN:Nat
 pcC:Nat
 pcs:List Int
abbrev Cx.B (x:Cx):Nat:=x.W0.heap.size
abbrev Cx.eofV (x:Cx):Value:=.iface 196 (.pointer (some x.eofA))
abbrev y6:Value:=.iface 116 (.agg #[])
structure Cx.Ok (x:Cx):Prop where
 len:x.T.length≤1000000000
 d:x.B≤x.d
 br:x.B≤x.br
 rb:x.B≤x.rb
 rd:x.B≤x.rd
 ne1:x.d≠x.br
 ne2:x.d≠x.rb
 ne3:x.d≠x.rd
 ne4:x.br≠x.rb
 ne5:x.br≠x.rd
 ne6:x.rb≠x.rd
 eof:x.W0.cell? ⟨0,0,none⟩=some x.eofV
 eofL:x.eofA.block<x.B
 gB:0<x.B
 pcN:x.pcN≤9223372036854775807
 pcL:x.pcN≤x.pcC
 pc:0<x.pcN→∃ pb a:Nat,x.pcA=some ⟨pb,a,none⟩∧pb<x.B∧∀ j,j<x.pcN→x.W0.cell? ⟨pb,a+j,none⟩=some (.int .i64 (x.pcs.getD j 0))
def Cx.S0 (x:Cx) (k:Nat):Prop:=k=x.d∨k=x.br∨k=x.rb∨k=x.rd
@[go_sem] def tZ (x:Cx) (s:ByteArray) (n:Int):Array Value:=#[.string s,.slice x.pcA x.pcN x.pcC,.int .i64 n,.bool x.o.fails]
def pJ (x:Cx):Value:=if x.o.fails then y6 else x.eofV
section
variable {P:Program}
def kX (l:Bs):List Value:=l.map fun b=>Value.int .u8 b.toNat
theorem BC (w:World) (j u ty c:TypeId) (g a f:Nat) (s:ByteArray) (d:Array Value) (t:TypeId)
  (r:P.underlying j=some (.slice c)) (q:(P.info? c).map (·.size)=some 1)
  (n:w.heap[g]?=some (.cells d t (0,0))) (k:Nat.min s.size a≤d.size) :
  (Builtin.copy_ #[j,u] ty #[.slice (some ⟨g,0,none⟩) a f,.string s]).run P w =
   .ok (goInt (Nat.min s.size a)) (w.setRow g (kX (s.data.toList.take (Nat.min s.size a))++d.toList.drop (Nat.min s.size a)).toArray):=by
 have p:Nat.min s.size a≤s.size:=Nat.min_le_left _ _;have h:s.data.toList.length=s.size:=rfl;have e:=run_storeCells_at P g 0 t ((s.data.toList.take (Nat.min s.size a)).map fun b=>Value.int .u8 b.toNat) 0 d w n (by
  simp only [List.length_map,pI,h];omega) (by intro v m;simp only [List.mem_map] at m;obtain ⟨b,_,rfl⟩:=m;rfl)
 have o:((s.data.toList.take (Nat.min s.size a)).map fun b=>Value.int .u8 b.toNat).length=Nat.min s.size a:=by
  simp only [List.length_map,pI,h];omega
 rw [o] at e;simp only [Nat.zero_add,List.take_zero,List.nil_append] at e;cases l:P.info? c with
 | none=>simp [l] at q
 | some i=>
  simp only [Builtin.copy_,Builtin.lenOf,Builtin.firstCells,sizeOf,typeInfo];simp only [List.getElem?_toArray,List.getElem?_cons_zero,List.getElem?_cons_succ,Sem.run_bind,run_underlying r,Result.andThen_ok];rw [List.map_take] at e;unfold kX;rw [List.map_take];simp [l];rw [e];rfl
end
theorem rO {P:Program} {l:Array Oper} {o:Oper} {a:Act} {w:World} {K:Act→World→Prop} {Q:Exit→Act→World→Prop} {E:Prop} (p:o.guard=none) (d s:Operand) (n r:TypeId)
  (y:o.op=.call { callee:=.builtin .copy,args:=#[d,s],argTypes:=#[n,r] }) (c:TypeId) (A:P.underlying n=some (.slice c)) (q:(P.info? c).map (·.size)=some 1)
  (g b i:Nat) (f:ByteArray) (u:a.eval d=.slice (some ⟨g,0,none⟩) b i) (z:a.eval s=.string f)
  (e:Array Value) (t:TypeId) (v:w.heap[g]?=some (.cells e t (0,0))) (m:Nat) (x:m=Nat.min f.size b) (j:m≤e.size)
  (h:∀ w',Hid (w'=w.setRow g (kX (f.data.toList.take m)++e.toList.drop m).toArray)→K (a.put o.dst (.int .i64 m)) w') :
  if Region.wanted o (yielded l a.tmps)=true then Oper.wp P o a w K Q else E:=by
 have B:Region.wanted o (yielded l a.tmps)=true:=by simp [Region.wanted,p]
 rw [aY B];subst x;have k:=BC (P:=P) w n r o.type c g b i f e t A q v j;unfold Oper.wp;simp only [execOp,y,resolve,invoke,builtin];simp [u,z,k,Result.andThen];exact h _ (show _=_ from rfl)
theorem pQ:(prog.info? 5).map (·.size)=some 1:=by kernel_rfl
theorem FJ (x:Cx) (w:World) (n:Int) (s:ByteArray) (g:s.toList.isEmpty=true) (a:aL w x.rd (tZ x s n) 56)
   (c:w.cell? ⟨0,0,none⟩=some x.eofV) :
    Calls prog 170 #[.pointer (some ⟨x.rd,0,none⟩),.slice (some ⟨x.rb,0,none⟩) 4096 4096] w fun e w'=>e=.returned (.tuple #[.int .i64 0,pJ x])∧∃ k,w'=w.drewN k:=by
  have d:=a.cell;have f:=a.frozen;clear a;cases b:x.o.fails
  · go_enter func170,ntmps170
    go_wp2;go_quiet (fail);go_wp2;go_ret2
    exact ⟨by simp [pJ,b],_,rfl⟩
  · go_enter func170,ntmps170
    go_wp2;go_ret2
    exact ⟨by simp [pJ,b],0,rfl⟩
structure FK (x:Cx) (w:World) (s:ByteArray) (n:Nat) (a:Array Value) (m:Nat) (w':World):Prop where
 m1:1≤m
 m2:m≤4096
 m3:m≤s.size
 row:aL w' x.rb (kX (s.data.toList.take m)++a.toList.drop m).toArray 5
 rd:∃ b,b≤n+1∧aL w' x.rd (tZ x (s.extract m s.size) b) 56
 mod:aJ (fun k=>k=x.rb∨k=x.rd) w w'
 size:w'.heap.size=w.heap.size
theorem MP (x:Cx) (w:World) (n:Nat) (s:ByteArray) (E:s.toList.isEmpty=false) (b:Array Value) (d:aL w x.rd (tZ x s n) 56) (l:aL w x.rb b 5) (G:b.size=4096)
   (u:x.pcN=0) (F:s.size ≤ 1000000000) (c:x.rb ≠ x.rd) :
    Calls prog 170 #[.pointer (some ⟨x.rd,0,none⟩),.slice (some ⟨x.rb,0,none⟩) 4096 4096] w fun e w'=>∃ m:Nat,e=.returned (.tuple #[.int .i64 m,.nilIface])∧FK x w s n b m w':=by
  have A:=d.cell;have C:=d.frozen;have I:decide ((0:Int) < (x.pcN:Int))=false:=by simp [u]
  have y:0 < s.size:=by
    rcases Nat.eq_zero_or_pos s.size with h|h
    · have:s=ByteArray.empty:=by simpa using h
      subst this;simp at E
    · exact h
  obtain ⟨m,i⟩:∃ m,m=Nat.min s.size 4096:=⟨_,rfl⟩;have q:m ≤ s.size:=by rw [i];exact Nat.min_le_left _ _
  have r:m ≤ 4096:=by rw [i];exact Nat.min_le_right _ _
  have t:1 ≤ m:=by rw [i];exact Nat.le_min.2 ⟨y,by omega⟩
  have z:Hid (m=Nat.min s.size 4096):=i;clear i;have f:=Lib.hid d;have g:=Lib.hid l;clear d l;go_enter func170,ntmps170
  go_wp2;go_region_law (refine rO rfl (.tmp 55) (.tmp 59) 81 9 rfl 5 underlying81 pQ x.rb 4096 4096 s rfl rfl b 5 g.out m z.out (by omega) ?_;intro w1 a)
  have B:∀ o,w1.cell? ⟨x.rd,o,none⟩=(tZ x s n)[o]?:=by
    rw [a.out];exact (aL.row_ne (show aL _ x.rd _ _ from f.out) (fun h=>c h.symm) _).cell
  have D:∀ o,w1.frozen? ⟨x.rd,o,none⟩=false:=by
    rw [a.out];exact (aL.row_ne (show aL _ x.rd _ _ from f.out) (fun h=>c h.symm) _).frozen
  clear A C;go_wp2;go_ret2
  have v:aL w1 x.rb (kX (s.data.toList.take m) ++ b.toList.drop m).toArray 5:=by
    rw [a.out];exact aL.row (show aL _ x.rb _ _ from g.out) _
  have p:aL w1 x.rd (tZ x s n) 56:=by
    rw [a.out];exact aL.row_ne (show aL _ x.rd _ _ from f.out) (fun h=>c h.symm) _
  have j:aJ (fun k=>k=x.rb ∨ k=x.rd) w w1:=by
    rw [a.out];exact aJ.setRow (aJ.refl _ w).drew (aG (aG rfl)) _
  have H:w1.heap.size=w.heap.size:=by rw [a.out];simp [World.setRow]
  exact ⟨m,rfl,t,r,q,v.set_ne (by simpa using c) _,⟨n,by omega,p.set 0 _⟩,j.setCell (aG (aU rfl)) _,by simp [H]⟩
theorem t6 (x:Cx) (w:World) (n:Nat) (s:ByteArray) (S:s.toList.isEmpty=false) (a:Array Value) (d:aL w x.rd (tZ x s n) 56) (o:aL w x.rb a 5) (U:a.size=4096)
   (A C:Nat) (B:0 < x.pcN) (M:x.pcA=some ⟨A,C,none⟩) (N:x.pcN ≤ 9223372036854775807) (p:Int) (Z:w.cell? ⟨A,C + n % x.pcN,none⟩=some (.int .i64 p))
   (q:Nat) (O:(p ≤ 1∧q=1) ∨ (1 < p∧p < 4096∧p=q) ∨ (4096 ≤ p∧q=4096))
   (T:s.size ≤ 1000000000) (Y:n ≤ 1000000000) (c:x.rb ≠ x.rd) :
    Calls prog 170 #[.pointer (some ⟨x.rd,0,none⟩),.slice (some ⟨x.rb,0,none⟩) 4096 4096] w fun e w'=>∃ m:Nat,e=.returned (.tuple #[.int .i64 m,.nilIface])∧FK x w s n a m w':=by
  have F:=d.cell;have H:=d.frozen;have W:decide ((0:Int) < (x.pcN:Int))=true:=by simpa using B
  have D:0 < s.size:=by
    rcases Nat.eq_zero_or_pos s.size with h|h
    · have:s=ByteArray.empty:=by simpa using h
      subst this;simp at S
    · exact h
  have X:n % x.pcN < x.pcN:=Nat.mod_lt _ B;have P:1 ≤ q:=by omega
  have Q:q ≤ 4096:=by omega
  have R:(q:Int) ≤ 4096:=by omega
  obtain ⟨m,j⟩:∃ m,m=Nat.min s.size q:=⟨_,rfl⟩;have u:m ≤ s.size:=by rw [j];exact Nat.min_le_left _ _
  have J:m ≤ q:=by rw [j];exact Nat.min_le_right _ _
  have v:1 ≤ m:=by rw [j];exact Nat.le_min.2 ⟨D,by omega⟩
  have E:Hid (m=Nat.min s.size q):=j;clear j;have t:=Lib.hid d;have g:=Lib.hid o;clear d o;rcases O with ⟨z,rfl⟩|⟨z,L,rfl⟩|⟨z,rfl⟩
  all_goals
    go_enter func170,ntmps170
    go_wp2;go_quiet (fail);go_wp2;go_region_law (refine rO rfl (.tmp 55) (.tmp 59) 81 9 rfl 5 underlying81 pQ x.rb _ _ s rfl rfl a 5 (aL.set_ne (show aL _ x.rb _ _ from g.out) (by simpa using c) _) m E.out (by omega) ?_;intro w1 f)
    have i:aL ((w.drewN nq).setCell ⟨x.rd,2,none⟩ (.int .i64 ((n:Int) + 1))) x.rd (tZ x s ((n:Int) + 1)) 56:=(show aL (w.drewN nq) x.rd _ _ from t.out).set 2 _;have b:aL w1 x.rd (tZ x s ((n:Int) + 1)) 56:=by
      rw [f.out];exact aL.row_ne (show aL _ x.rd _ _ from i) (fun h=>c h.symm) _
    have G:=b.cell;have I:=b.frozen;clear F H;have r:=Lib.hid b;clear b i;go_wp2;go_ret2
    have y:aL w1 x.rb (kX (s.data.toList.take m) ++ a.toList.drop m).toArray 5:=by
      rw [f.out];exact aL.row (aL.set_ne (show aL _ x.rb _ _ from g.out) (by simpa using c) _) _
    have l:aJ (fun k=>k=x.rb ∨ k=x.rd) w w1:=by
      rw [f.out];exact aJ.setRow ((aJ.refl _ w).drewN nq |>.setCell (aG (aU rfl)) _).drew (aG (aG rfl)) _
    have V:w1.heap.size=w.heap.size:=by rw [f.out];simp [World.setRow]
    exact ⟨m,rfl,v,by omega,u,y.set_ne (by simpa using c) _,⟨n + 1,by omega,r.out.set 0 _⟩,l.setCell (aG (aU rfl)) _,by simp [V]⟩
@[go_sem] def iP (x:Cx) (r q:Int) (e:Value) (a:Int):Array Value:=#[.slice (some ⟨x.rb,0,none⟩) 4096 4096,.iface 54 (.pointer (some ⟨x.rd,0,none⟩)),.int .i64 r,.int .i64 q,e,.int .i64 a,.int .i64 (-1)]
theorem BD (x:Cx) (g:x.Ok) (w:World) (t:Below x.B x.W0 w) (n:Nat) (s:ByteArray) (i:s.toList.isEmpty=false) (a:Array Value) (c:aL w x.rd (tZ x s n) 56) (b:aL w x.rb a 5) (f:a.size=4096)
   (d:s.size ≤ 1000000000) (o:n ≤ 1000000000) :
    Calls prog 170 #[.pointer (some ⟨x.rd,0,none⟩),.slice (some ⟨x.rb,0,none⟩) 4096 4096] w fun e w'=>∃ m:Nat,e=.returned (.tuple #[.int .i64 m,.nilIface])∧FK x w s n a m w':=by
  rcases Nat.eq_zero_or_pos x.pcN with h|h
  · exact MP x w n s i a c b f h d g.ne6
  · obtain ⟨k,l,q,r,u⟩:=g.pc h
    have j:w.cell? ⟨k,l + n % x.pcN,none⟩=some (.int .i64 (x.pcs.getD (n % x.pcN) 0)):=by
      rw [← u _ (Nat.mod_lt _ h)];exact t.cell r
    generalize x.pcs.getD (n % x.pcN) 0=p at j;by_cases v:p ≤ 1
    · exact t6 x w n s i a c b f k l h q g.pcN p j 1 (by omega) d o g.ne6
    · by_cases y:p < 4096
      · exact t6 x w n s i a c b f k l h q g.pcN p j p.toNat (by omega) d o g.ne6
      · exact t6 x w n s i a c b f k l h q g.pcN p j 4096 (by omega) d o g.ne6
theorem nZ (a:Addr) (w:World):(method 411 54 (.pointer (some a)) "Read").run prog w=.ok (170,.pointer (some a)) w:=by kernel_rfl
theorem qW (a:Array Value) (w:World):(callFunc 170 a).run prog w=.ok (.enter 170 a) w:=enters_of func170 (by kernel_rfl) rfl a w
theorem bM {B:Nat} {a w:World} (h:Below B a w) (n:Nat):Below B a (w.drewN n):=⟨h.os,h.tape,h.output,h.size,h.block⟩
theorem j9 {P:Program} {j:Array Oper} {o:Oper} {a:Act} {w:World} {K:Act→World→Prop} {Q:Exit→Act→World→Prop} {E:Prop} (l:o.guard=none) (d s:Operand) (k p:TypeId)
  (u:o.op=.call { callee:=.builtin .copy,args:=#[d,s],argTypes:=#[k,p] }) (c:TypeId) (x:P.underlying k=some (.slice c)) (m:(P.info? c).map (·.size)=some 1)
  (n q:Option Addr) (b f e g:Nat) (r:a.eval d=.slice n b f) (v:a.eval s=.slice q e g) (t:Nat.min e b=0)
  (h:K (a.put o.dst (.int .i64 0)) w) :
  if Region.wanted o (yielded j a.tmps)=true then Oper.wp P o a w K Q else E:=by
 have y:Region.wanted o (yielded j a.tmps)=true:=by simp [Region.wanted,l]
 rw [aY y];have i:=run_copy_none (P:=P) w k p o.type c n q b f e g x m t;unfold Oper.wp;simp only [execOp,u,resolve,invoke,builtin];simp [r,v,i,Result.andThen];exact h
def sN (x:Cx) (w:World) (s:ByteArray) (n:Nat) (a:Array Value) (c:Int) (w':World):Prop:=
 ∃ m:Nat,1≤m∧m≤4096∧m≤s.size∧aL w' x.br (iP x 0 m .nilIface c) 235∧aL w' x.rb (kX (s.data.toList.take m)++a.toList.drop m).toArray 5 ∧
  (∃ b,b≤n+1∧aL w' x.rd (tZ x (s.extract m s.size) b) 56)∧aJ (fun k=>k=x.br∨k=x.rb∨k=x.rd) w w'∧w'.heap.size=w.heap.size
def wD (x:Cx) (w:World) (a:Int) (w':World):Prop:=
 aL w' x.br (iP x 0 0 (pJ x) a) 235∧aJ (fun k=>k=x.br) w w'∧w'.heap.size=w.heap.size
end Go.Proofs.YthapcchcahnfaaaGreatDoor
