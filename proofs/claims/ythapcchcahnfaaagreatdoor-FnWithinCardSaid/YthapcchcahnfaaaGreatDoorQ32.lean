/- Part of the proof that laws.FnWithin returns true for every argument. No conditions. -/
import Derived.Test.YthapcchcahnfaaaGreatDoorQ24
import Derived.Test.YthapcchcahnfaaaGreatDoorQ31
set_option linter.all false
set_option maxHeartbeats 8000000
set_option maxRecDepth 100000
namespace Go.Proofs.YthapcchcahnfaaaGreatDoor
open Go Go.RowKit Go.Proofs.Tryz
noncomputable def iK (n:Nat):Code:=((Tryz.f20.body).bind (Code.partAt n)).getD .skip
abbrev lW:Array Value:=#[.int .i64 0,.string ⟨#[]⟩,.string ⟨#[]⟩,.slice none 0 0,.string ⟨#[]⟩,.int .i64 0,.int .i64 0,.int .i64 0]
abbrev qM (R:Ending→World→Prop):Exit→Act→World→Prop:=bodyPost prog Tryz.f20 R
theorem S9 (x:Cx) (c:DC) (w:World) (v:DV) (h:bU w x.d c v) (s:-1000000000000≤v.off-v.lstart) (t:v.off-v.lstart≤1000000000000) (y:Value) (R:Ending→World→Prop)
  (u:∀ f w',Below w.heap.size w w'→aJ w' w.heap.size lW 38→aJ w' (w.heap.size+1) #[.int .i64 0,.string ⟨#[]⟩,.string ⟨#[]⟩,.slice none 0 0,.string ⟨#[]⟩,.int .i64 v.off,.int .i64 v.line,.int .i64 (v.off-v.lstart+1)] 38→w.heap.size+2≤w'.heap.size →
   (iK 3).wp prog (qM R) (fr 104 f [(0,y),(4,.pointer (some ⟨w.heap.size,0,none⟩)),(5,.pointer (some ⟨w.heap.size+1,0,none⟩))]) w') :
  Calls prog 20 #[y,bV x] w R:=by
 have m:=Lh (fun (w':World) (h:bU w' x.d c v)=>zM x c w' v h);have o:=Lh (fun (w':World) (h:bU w' x.d c v)=>GG x c w' v h s t);have ⟨r,z⟩:=cH h u;clear h s t u;refine eT 104 func20 [_,_] fun f=>?_;simp only [aF];refine vg ?_;intro K hK K hK;refine (m.o _ (show aJ _ x.d _ _ from aJ.alloc r.o _)).mono ?_;rintro E w1 ⟨rfl,rfl⟩;(repeat revert K);refine vS ?_;intro K hK K hK;obtain ⟨d,b⟩:=cR ((w.alloc (.cells lW 38)).alloc (.cells #[.int .i64 0,.string ⟨#[]⟩,.string ⟨#[]⟩,.slice none 0 0,.string ⟨#[]⟩,.int .i64 v.off,.int .i64 0,.int .i64 0] 38));have k:=Lh (show Below w.heap.size w d by rw [b];exact ((Below.refl _ w).alloc (dC _) _).alloc (by simp) _);have i:=Lh (show aJ d w.heap.size lW 38 by rw [b];exact (aJ.new w _ _).alloc _);have j:=Lh (show aJ d (w.heap.size+1) #[.int .i64 0,.string ⟨#[]⟩,.string ⟨#[]⟩,.slice none 0 0,.string ⟨#[]⟩,.int .i64 v.off,.int .i64 0,.int .i64 0] 38 by
  have:=aJ.new (w.alloc (.cells lW 38)) #[.int .i64 0,.string ⟨#[]⟩,.string ⟨#[]⟩,.slice none 0 0,.string ⟨#[]⟩,.int .i64 v.off,.int .i64 0,.int .i64 0] 38;rw [b];simpa using this)
 have q:=Lh (show w.heap.size+2≤d.heap.size by rw [b];simp);have p:=Lh (show bU d x.d c v from aJ.mod (S:=fun _=>False) r.o (aH k.o _) id);rw [←b];clear b m;refine (o.o _ p.o).mono ?_;rintro F G ⟨rfl,n,rfl⟩;clear o;have g:aJ (d.drewN n) (w.heap.size+1) _ _:=j.o;have B:=g.cell;have D:=g.frozen;have e:aJ (d.drewN n) w.heap.size _ _:=i.o;have A:=e.cell;have C:=e.frozen;clear g e;go_simp;(repeat revert K);refine vT 3 ?_;refine cM [0,4,5] fun f=>?_;have l:w.heap.size≠w.heap.size+1:=by omega
 refine bB (z.o f _ ?_ ?_ ?_ ?_) (by kernel_rfl)
 ·refine Below.setCell ?_ (by simp) _;refine Below.setCell ?_ (by simp) _;exact cL k.o n
 ·exact ((show aJ (d.drewN n) w.heap.size _ _ from i.o).set_ne (a:=⟨w.heap.size+1,6,none⟩) l (.int .i64 v.line)).set_ne (a:=⟨w.heap.size+1,7,none⟩) l (.int .i64 (v.off-v.lstart+1))
 ·exact ((show aJ (d.drewN n) (w.heap.size+1) _ _ from j.o).set 6 (.int .i64 v.line)).set 7 (.int .i64 (v.off-v.lstart+1))
 ·have:=q.o;simpa [World.setCell,World.drewN] using this
theorem A3 (w:World) (b:Nat) (k:Int) (g h j:Bs) (l:Option Addr) (n m:Nat) (c d e:Int) (a:aJ w b lW 38) (o:aJ w (b+1) #[.int .i64 k,aB g,aB h,.slice l n m,aB j,.int .i64 c,.int .i64 d,.int .i64 e] 38)
  (R:Ending→World→Prop) (r:∀ w',aK (fun i=>i=b) w w'→R (.returned (.agg #[.int .i64 k,aB g,aB h,.slice l n m,aB j,.int .i64 c,.int .i64 d,.int .i64 e])) w') (f:Nat→Value) :
  (iK 27).wp prog (qM R) (fr 104 f [(4,.pointer (some ⟨b,0,none⟩)),(5,.pointer (some ⟨b+1,0,none⟩))]) w:=by
 have y:=o.cell;have z:=o.frozen;have u:=a.cell;have x:=a.frozen;have ⟨t,s⟩:=cH a r;clear o a r;conv=>arg 2;unfold iK;whnf
 refine vg ?_;refine bodyPost_ret (v:=.agg #[.int .i64 k,aB g,aB h,.slice l n m,aB j,.int .i64 c,.int .i64 d,.int .i64 e]) ?_ (jM _ _ _) ?_
 ·refine results_cell_row (fn:=Tryz.f20) (p:=4) (ty:=38) (by rfl) _ _ b 38 _ (0,0) _ (by rw [jZ (by decide)];simp only [aL,aP,aR,aZ,Nat.reduceEqDiff,↓reduceIte]) ?_ underlying38 rfl (by kernel_rfl);have q:=((((((((show aJ w b _ _ from t.o).set 0 (.int .i64 k)).set 1 (aB g)).set 2 (aB h)).set 3 (.slice l n m)).set 4 (aB j)).set 5 (.int .i64 c)).set 6 (.int .i64 d)).set 7 (.int .i64 e);simp only [List.setIfInBounds_toArray,List.set_cons_zero,List.set_cons_succ] at q;exact q
 ·refine s.o _ ?_;repeat (refine aK.setCell (S:=fun i=>i=b) ?_ (aG rfl) _)
  exact aK.refl _ _
theorem ZE (v:Value) (w:World):(Instr.typeAssert (YD v) 57 122 true).run prog w=.ok (.tuple #[.slice none 0 0,.bool false]) w:=by kernel_rfl
theorem ZF (v:Value) (w:World):(Instr.typeAssert (YD v) 57 123 true).run prog w=.ok (.tuple #[v,.bool true]) w:=by kernel_rfl
theorem ZG (a:Bs) (v:Value) (w:World):(Instr.typeAssert (VB a v) 57 122 true).run prog w=.ok (.tuple #[.slice none 0 0,.bool false]) w:=by kernel_rfl
theorem ZH (a:Bs) (v:Value) (w:World):(Instr.typeAssert (VB a v) 57 123 true).run prog w=.ok (.tuple #[.slice none 0 0,.bool false]) w:=by kernel_rfl
theorem ZI (a:Bs) (v:Value) (w:World):(Instr.typeAssert (VB a v) 57 125 true).run prog w=.ok (.tuple #[.agg #[aB a,v],.bool true]) w:=by kernel_rfl
theorem ZJ (v:Value) (w:World):(Instr.typeAssert (VA v) 57 122 true).run prog w=.ok (.tuple #[.slice none 0 0,.bool false]) w:=by kernel_rfl
theorem ZK (v:Value) (w:World):(Instr.typeAssert (VA v) 57 123 true).run prog w=.ok (.tuple #[.slice none 0 0,.bool false]) w:=by kernel_rfl
theorem ZL (v:Value) (w:World):(Instr.typeAssert (VA v) 57 125 true).run prog w=.ok (.tuple #[.agg #[mW,.slice none 0 0],.bool false]) w:=by kernel_rfl
theorem ZM (v:Value) (w:World):(Instr.typeAssert (VA v) 57 126 true).run prog w=.ok (.tuple #[v,.bool true]) w:=by kernel_rfl
theorem TA (l:Bs) (w:World) (b a c:Nat) (h:bJ w b a l):(convert 123 9 (.slice (some ⟨b,a,none⟩) l.length c)).run prog w=.ok (aB l) w:=
 Lib.run_convert_whole (P:=prog) w 123 5 9 underlying123 underlying5 underlying9 b a ⟨l.toArray⟩ h.toBytes c
theorem TB (l:Bs) (w:World) (b a c:Nat) (h:bJ w b a l):(convert 126 9 (.slice (some ⟨b,a,none⟩) l.length c)).run prog w=.ok (aB l) w:=
 Lib.run_convert_whole (P:=prog) w 126 5 9 underlying126 underlying5 underlying9 b a ⟨l.toArray⟩ h.toBytes c
theorem TC (l:Bs) (w:World) (b a c:Nat) (h:bJ w b a l):(convert 81 9 (.slice (some ⟨b,a,none⟩) l.length c)).run prog w=.ok (aB l) w:=
 Lib.run_convert_whole (P:=prog) w 81 5 9 underlying81 underlying5 underlying9 b a ⟨l.toArray⟩ h.toBytes c
structure yO (w0:World) (p:cA) (e f:Int) (d:Ending) (w':World):Prop where
 ex:∃ a c b,d=.returned (.agg #[.int .i64 p.kind,aB p.space,aB p.loc,.slice a c b,aB p.text,.int .i64 p.at',.int .i64 e,.int .i64 f])∧w'.ownsRow w0.heap.size 67 3 (.slice a c b) p.attrs.length (aO p.attrs)
 below:Below w0.heap.size w0 w'
theorem A4 (w:World) (b:Nat):w.ownsRow b 67 3 (.slice none 0 0) ([]:List cV).length (aO []):=⟨rfl,aG ⟨rfl,rfl⟩⟩
theorem W9 {y t:Nat} (w0 w:World) (l:Nat) (m n:Int) (e:Below w0.heap.size w0 w) (p:aJ w w0.heap.size lW 38) (i:aJ w (w0.heap.size+1) #[.int .i64 0,.string ⟨#[]⟩,.string ⟨#[]⟩,.slice none 0 0,.string ⟨#[]⟩,.int .i64 l,.int .i64 m,.int .i64 n] 38)
  (d:Bs) (g b:Nat) (h:bJ w g 0 d) (C:g<w0.heap.size) (f:Nat→Value):(iK 3).wp prog (qM (yO w0 ⟨3,[],[],[],d,l,y,t⟩ m n)) (fr 104 f [(0,YC (.slice (some ⟨g,0,none⟩) d.length b)),(4,.pointer (some ⟨w0.heap.size,0,none⟩)),(5,.pointer (some ⟨w0.heap.size+1,0,none⟩))]) w:=by
 have D:=fun v w=>VC v w;have E:=fun v w=>O3 v w;have F:=fun v w=>Y4 v w;have j:g≠w0.heap.size+1:=by omega
 have z:=i.cell;have A:=i.frozen;have ⟨q,s,o,r⟩:=kY i p e h;have c:w0.heap.size≠w0.heap.size+1:=by omega
 clear e p i h;conv=>arg 2;unfold iK;whnf
 refine vg ?_;intro K hK;refine cM [4,5,10] fun f=>?_
 go_region_held3 (fun w'=>(convert 122 9 (.slice (some ⟨g,0,none⟩) d.length b)).run prog w'=.ok (aB d) w')
  (exact ST d _ g 0 b (by repeat (first|exact r.o|refine bJ.setCell ?_ j _|refine bJ.drew ?_)))
  (fail)
 revert K;refine vT 27 ?_;refine cM [4,5] fun f=>?_;refine bB (A3 _ w0.heap.size 3 [] [] d none 0 0 l m n ?_ ?_ _ (fun w' x=>⟨⟨none,0,0,rfl,A4 _ _⟩,?_⟩) f) (by kernel_rfl)
 ·exact (((show aJ w w0.heap.size _ _ from s.o).set_ne (a:=⟨w0.heap.size+1,0,none⟩) c (.int .i64 3)).set_ne (a:=⟨w0.heap.size+1,4,none⟩) c (aB d)).drew
 ·exact (((show aJ w (w0.heap.size+1) _ _ from q.o).set 0 (.int .i64 3)).set 4 (aB d)).drew
 ·refine aK.below (B:=w0.heap.size) ?_ ?_ x (fun k u=>by rw [u];exact dC _)
  ·refine Below.drew ?_;repeat (refine Below.setCell ?_ (by simp) _)
   exact o.o
  ·have:=o.o.size;simpa [World.setCell,World.drew] using this
theorem ZN {y t:Nat} (w0 w:World) (l:Nat) (m n:Int) (e:Below w0.heap.size w0 w) (p:aJ w w0.heap.size lW 38) (i:aJ w (w0.heap.size+1) #[.int .i64 0,.string ⟨#[]⟩,.string ⟨#[]⟩,.slice none 0 0,.string ⟨#[]⟩,.int .i64 l,.int .i64 m,.int .i64 n] 38)
  (d:Bs) (g b:Nat) (h:bJ w g 0 d) (C:g<w0.heap.size) (f:Nat→Value):(iK 3).wp prog (qM (yO w0 ⟨4,[],[],[],d,l,y,t⟩ m n)) (fr 104 f [(0,YD (.slice (some ⟨g,0,none⟩) d.length b)),(4,.pointer (some ⟨w0.heap.size,0,none⟩)),(5,.pointer (some ⟨w0.heap.size+1,0,none⟩))]) w:=by
 have D:=fun v w=>VE v w;have E:=fun v w=>PL v w;have F:=fun v w=>ZE v w;have G:=fun v w=>ZF v w;have j:g≠w0.heap.size+1:=by omega
 have z:=i.cell;have A:=i.frozen;have ⟨q,s,o,r⟩:=kY i p e h;have c:w0.heap.size≠w0.heap.size+1:=by omega
 clear e p i h;conv=>arg 2;unfold iK;whnf
 refine vg ?_;intro K hK;refine cM [4,5,11] fun f=>?_
 go_region_held3 (fun w'=>(convert 123 9 (.slice (some ⟨g,0,none⟩) d.length b)).run prog w'=.ok (aB d) w')
  (exact TA d _ g 0 b (by repeat (first|exact r.o|refine bJ.setCell ?_ j _|refine bJ.drew ?_)))
  (fail)
 revert K;refine vT 27 ?_;refine cM [4,5] fun f=>?_;refine bB (A3 _ w0.heap.size 4 [] [] d none 0 0 l m n ?_ ?_ _ (fun w' x=>⟨⟨none,0,0,rfl,A4 _ _⟩,?_⟩) f) (by kernel_rfl)
 ·exact (((show aJ w w0.heap.size _ _ from s.o).set_ne (a:=⟨w0.heap.size+1,0,none⟩) c (.int .i64 4)).set_ne (a:=⟨w0.heap.size+1,4,none⟩) c (aB d)).drew
 ·exact (((show aJ w (w0.heap.size+1) _ _ from q.o).set 0 (.int .i64 4)).set 4 (aB d)).drew
 ·refine aK.below (B:=w0.heap.size) ?_ ?_ x (fun k u=>by rw [u];exact dC _)
  ·refine Below.drew ?_;repeat (refine Below.setCell ?_ (by simp) _)
   exact o.o
  ·have:=o.o.size;simpa [World.setCell,World.drew] using this
theorem ZO {y t:Nat} (w0 w:World) (l:Nat) (m n:Int) (e:Below w0.heap.size w0 w) (p:aJ w w0.heap.size lW 38) (i:aJ w (w0.heap.size+1) #[.int .i64 0,.string ⟨#[]⟩,.string ⟨#[]⟩,.slice none 0 0,.string ⟨#[]⟩,.int .i64 l,.int .i64 m,.int .i64 n] 38)
  (d:Bs) (g b:Nat) (h:bJ w g 0 d) (C:g<w0.heap.size) (f:Nat→Value):(iK 3).wp prog (qM (yO w0 ⟨6,[],[],[],d,l,y,t⟩ m n)) (fr 104 f [(0,VA (.slice (some ⟨g,0,none⟩) d.length b)),(4,.pointer (some ⟨w0.heap.size,0,none⟩)),(5,.pointer (some ⟨w0.heap.size+1,0,none⟩))]) w:=by
 have D:=fun v w=>VF v w;have E:=fun v w=>PM v w;have F:=fun v w=>ZJ v w;have G:=fun v w=>ZK v w;have H:=fun v w=>ZL v w;have I:=fun v w=>ZM v w;have j:g≠w0.heap.size+1:=by omega
 have z:=i.cell;have A:=i.frozen;have ⟨q,s,o,r⟩:=kY i p e h;have c:w0.heap.size≠w0.heap.size+1:=by omega
 clear e p i h;conv=>arg 2;unfold iK;whnf
 refine vg ?_;intro K hK;refine cM [4,5,13] fun f=>?_
 go_region_held3 (fun w'=>(convert 126 9 (.slice (some ⟨g,0,none⟩) d.length b)).run prog w'=.ok (aB d) w')
  (exact TB d _ g 0 b (by repeat (first|exact r.o|refine bJ.setCell ?_ j _|refine bJ.drew ?_)))
  (fail)
 revert K;refine vT 27 ?_;refine cM [4,5] fun f=>?_;refine bB (A3 _ w0.heap.size 6 [] [] d none 0 0 l m n ?_ ?_ _ (fun w' x=>⟨⟨none,0,0,rfl,A4 _ _⟩,?_⟩) f) (by kernel_rfl)
 ·exact (((show aJ w w0.heap.size _ _ from s.o).set_ne (a:=⟨w0.heap.size+1,0,none⟩) c (.int .i64 6)).set_ne (a:=⟨w0.heap.size+1,4,none⟩) c (aB d)).drew
 ·exact (((show aJ w (w0.heap.size+1) _ _ from q.o).set 0 (.int .i64 6)).set 4 (aB d)).drew
 ·refine aK.below (B:=w0.heap.size) ?_ ?_ x (fun k u=>by rw [u];exact dC _)
  ·refine Below.drew ?_;repeat (refine Below.setCell ?_ (by simp) _)
   exact o.o
  ·have:=o.o.size;simpa [World.setCell,World.drew] using this
theorem ZP {L E:Nat} (w0 w:World) (s:Nat) (t u:Int) (l:Below w0.heap.size w0 w) (r:w0.heap.size+2≤w.heap.size) (z:aJ w w0.heap.size lW 38) (y:aJ w (w0.heap.size+1) #[.int .i64 0,.string ⟨#[]⟩,.string ⟨#[]⟩,.slice none 0 0,.string ⟨#[]⟩,.int .i64 s,.int .i64 t,.int .i64 u] 38)
  (b d:Bs) (g c:Nat) (m:bJ w g 0 d) (O:g<w0.heap.size) (f:Nat→Value):(iK 3).wp prog (qM (yO w0 ⟨5,[],b,[],d,s,L,E⟩ t u)) (fr 104 f [(0,VB b (.slice (some ⟨g,0,none⟩) d.length c)),(4,.pointer (some ⟨w0.heap.size,0,none⟩)),(5,.pointer (some ⟨w0.heap.size+1,0,none⟩))]) w:=by
 have P:=fun b v w=>VG b v w;have Q:=fun b v w=>PN b v w;have R:=fun b v w=>ZG b v w;have T:=fun b v w=>ZH b v w;have U:=fun b v w=>ZI b v w;have q:g≠w0.heap.size+1:=by omega
 have I:w.heap.size≠w0.heap.size+1:=by omega
 have J:w0.heap.size+1≠w.heap.size:=by omega
 have e:Below w.heap.size w (w.alloc (.cells #[aB b,.slice (some ⟨g,0,none⟩) d.length c] 125)):=(Below.refl _ w).alloc (dC _) _;obtain ⟨p,i⟩:=cR (w.alloc (.cells #[aB b,.slice (some ⟨g,0,none⟩) d.length c] 125));have n:aJ p w.heap.size #[aB b,.slice (some ⟨g,0,none⟩) d.length c] 125:=by rw [i];exact aJ.new w _ _
 rw [←i] at e;have h:aJ p (w0.heap.size+1) _ _:=aJ.mod (S:=fun _=>False) y (aH e _) id;have o:aJ p w0.heap.size _ _:=aJ.mod (S:=fun _=>False) z (aH e _) id;have ⟨A,D⟩:=cH h o;have x:=Lh (l.trans (e.mono l.size));have C:=Lh (m.below e);have j:w0.heap.size≠w0.heap.size+1:=by omega
 have M:=h.cell;have N:=h.frozen;have F:=n.cell;clear l z y m n e h o r;conv=>arg 2;unfold iK;whnf
 refine vT 23 ?_;intro K hK;rw [←i];clear i;refine cM [4,5,12] fun f=>?_
 go_region_held3 (fun w'=>w'.cell? ⟨w.heap.size,0,none⟩=some (aB b)∧w'.cell? ⟨w.heap.size,1,none⟩=some (.slice (some ⟨g,0,none⟩) d.length c)∧(convert 81 9 (.slice (some ⟨g,0,none⟩) d.length c)).run prog w'=.ok (aB d) w')
  (refine ⟨?_,?_,?_⟩<;>first|(exact TC d _ g 0 c (by repeat (first|exact C.o|refine bJ.setCell ?_ q _|refine bJ.drew ?_)))|go_keep)
  (fail)
 revert K;refine vT 27 ?_;refine cM [4,5] fun f=>?_;refine bB (A3 _ w0.heap.size 5 [] b d none 0 0 s t u ?_ ?_ _ (fun w' H=>⟨⟨none,0,0,rfl,A4 _ _⟩,?_⟩) f) (by kernel_rfl)
 ·exact ((((show aJ p w0.heap.size _ _ from D.o).set_ne (a:=⟨w0.heap.size+1,0,none⟩) j (.int .i64 5)).set_ne (a:=⟨w0.heap.size+1,2,none⟩) j (aB b)).set_ne (a:=⟨w0.heap.size+1,4,none⟩) j (aB d)).drew
 ·exact ((((show aJ p (w0.heap.size+1) _ _ from A.o).set 0 (.int .i64 5)).set 2 (aB b)).set 4 (aB d)).drew
 ·refine aK.below (B:=w0.heap.size) ?_ ?_ H (fun k G=>by rw [G];exact dC _)
  ·refine Below.drew ?_;repeat (refine Below.setCell ?_ (by simp) _)
   exact x.o
  ·have:=x.o.size;simpa [World.setCell,World.drew] using this
theorem ZQ {D v:Nat} (w0 w:World) (n:Nat) (o p:Int) (h:Below w0.heap.size w0 w) (m:w0.heap.size+2≤w.heap.size) (s:aJ w w0.heap.size lW 38) (r:aJ w (w0.heap.size+1) #[.int .i64 0,.string ⟨#[]⟩,.string ⟨#[]⟩,.slice none 0 0,.string ⟨#[]⟩,.int .i64 n,.int .i64 o,.int .i64 p] 38)
  (nm:Bs×Bs) (f:Nat→Value):(iK 3).wp prog (qM (yO w0 ⟨2,nm.1,nm.2,[],[],n,D,v⟩ o p)) (fr 104 f [(0,MN nm),(4,.pointer (some ⟨w0.heap.size,0,none⟩)),(5,.pointer (some ⟨w0.heap.size+1,0,none⟩))]) w:=by
 have G:=fun a b w=>VH a b w;have H:=fun a b w=>PO a b w;have A:w.heap.size≠w0.heap.size+1:=by omega
 have C:w0.heap.size+1≠w.heap.size:=by omega
 have c:Below w.heap.size w (w.alloc (.cells #[aB nm.1,aB nm.2] 110)):=(Below.refl _ w).alloc (dC _) _;obtain ⟨l,e⟩:=cR (w.alloc (.cells #[aB nm.1,aB nm.2] 110));have i:aJ l w.heap.size #[aB nm.1,aB nm.2] 110:=by rw [e];exact aJ.new w _ _
 rw [←e] at c;have d:aJ l (w0.heap.size+1) _ _:=aJ.mod (S:=fun _=>False) r (aH c _) id;have j:aJ l w0.heap.size _ _:=aJ.mod (S:=fun _=>False) s (aH c _) id;have ⟨t,u⟩:=cH d j;have q:=Lh (h.trans (c.mono h.size));have g:w0.heap.size≠w0.heap.size+1:=by omega
 have E:=d.cell;have F:=d.frozen;have x:=i.cell;clear h s r i c d j m;conv=>arg 2;unfold iK;whnf
 refine vT 14 ?_;intro K hK;rw [←e];clear e;refine cM [4,5,9] fun f=>?_
 go_region_held3 (fun w'=>w'.cell? ⟨w.heap.size,0,none⟩=some (aB nm.1)∧w'.cell? ⟨w.heap.size,1,none⟩=some (aB nm.2))
  (go_keep)
  (fail)
 revert K;refine vT 27 ?_;refine cM [4,5] fun f=>?_;refine bB (A3 _ w0.heap.size 2 nm.1 nm.2 [] none 0 0 n o p ?_ ?_ _ (fun w' z=>⟨⟨none,0,0,rfl,A4 _ _⟩,?_⟩) f) (by kernel_rfl)
 ·exact ((((show aJ l w0.heap.size _ _ from u.o).set_ne (a:=⟨w0.heap.size+1,0,none⟩) g (.int .i64 2)).set_ne (a:=⟨w0.heap.size+1,1,none⟩) g (aB nm.1)).set_ne (a:=⟨w0.heap.size+1,2,none⟩) g (aB nm.2)).drew
 ·exact ((((show aJ l (w0.heap.size+1) _ _ from t.o).set 0 (.int .i64 2)).set 1 (aB nm.1)).set 2 (aB nm.2)).drew
 ·refine aK.below (B:=w0.heap.size) ?_ ?_ z (fun k y=>by rw [y];exact dC _)
  ·refine Below.drew ?_;repeat (refine Below.setCell ?_ (by simp) _)
   exact q.o
  ·have:=q.o.size;simpa [World.setCell,World.drew] using this
theorem TD:(prog.info? 67).map (fun i=>(i.zero,i.size,i.bytes))=some (some (.agg #[.string ⟨#[]⟩,.string ⟨#[]⟩,.string ⟨#[]⟩]),3,48):=by kernel_rfl
theorem GZ (c:World) (b:Nat) (f:b≤c.heap.size) (v:Value) (acc:List cV) (w:acc.length≤1000000000) (h:c.ownsRow b 67 3 v acc.length (aO acc)) (a:cV) :
  ∃ v' e,(Builtin.append_ #[36,36] 36 #[v,.slice (some ⟨c.heap.size,0,none⟩) 1 1]).run prog (c.alloc (.cells #[aB a.1,aB a.2.1,aB a.2.2] 67))=.ok v' e ∧
   e.ownsRow b 67 3 v' (acc++[a]).length (aO (acc++[a]))∧(c.alloc (.cells #[aB a.1,aB a.2.1,aB a.2.2] 67)).grownBy e v.ownBlock∧(v'.ownBlock=v.ownBlock∨v'.ownBlock=some (c.heap.size+1)):=by
 obtain ⟨i,p,t,m,n⟩:=info_parts TD
 obtain ⟨v',e,s,r,o,g,d⟩:=run_append_own_at (P:=prog) (c.alloc (.cells #[aB a.1,aB a.2.1,aB a.2.2] 67)) b 36 36 67 i _ 3 48 underlying36 p t m n rfl (by omega) v acc.length (aO acc) (h.alloc _) ⟨c.heap.size,0,none⟩ 1 1 [aB a.1,aB a.2.1,aB a.2.2] rfl
  (by
   intro j u q;have f:=aJ.new c #[aB a.1,aB a.2.1,aB a.2.2] 67;rw [show ((⟨c.heap.size,0,none⟩:Addr).add j)=⟨c.heap.size,j,none⟩ by cases j<;>simp [Addr.add],f.cell];simpa using q)
  (by
   intro u k;simp only [l6,zF,or_false] at k;rcases k with rfl|rfl|rfl<;>rfl)
  (by unfold maxLen;omega) (by omega) (by simp;omega)
 refine ⟨v',e,s,?_,o,by simpa using d⟩;have l:aO (acc++[a])=aO acc++[aB a.1,aB a.2.1,aB a.2.2]:=by simp [aO]
 rw [l,fU];exact r
theorem nU {w:World} {a:Nat} {e:TypeId} {b:Nat} {v:Value} {n:Nat} {i:List Value} (h:w.ownsRow a e b v n i):∃ c f d,v=.slice c f d:=by
 rcases h.2 with ⟨rfl,_⟩|⟨g,cap,cur,rfl,_⟩
 ·exact ⟨_,_,_,rfl⟩
 ·exact ⟨_,_,_,rfl⟩
structure TE (w0:World) (nm:Bs×Bs) (e:Nat) (f h:Int) (g:Nat) (a:Array Value) (acc:List cV) (b:Option Addr) (d c:Nat) (w:World):Prop where
 below:Below w0.heap.size w0 w
 z:aJ w w0.heap.size lW 38
 t5:aJ w (w0.heap.size+1) #[.int .i64 1,aB nm.1,aB nm.2,.slice b d c,.string ⟨#[]⟩,.int .i64 e,.int .i64 f,.int .i64 h] 38
 src:aJ w g a 103
 row:w.ownsRow w0.heap.size 67 3 (.slice b d c) acc.length (aO acc)
 rowS:∀ k,(Value.slice b d c).ownBlock=some k→k≠w0.heap.size∧k≠w0.heap.size+1
 sz:w0.heap.size+2≤w.heap.size
def ZR (w0:World) (nm:Bs×Bs) (e:Nat) (h j:Int) (g c:Nat) (d:Array Value) (b:List cV) (k:Nat) (a:Act) (w:World):Prop:=
 ∃ f i l n m,a=fr 104 f [(4,.pointer (some ⟨w0.heap.size,0,none⟩)),(5,.pointer (some ⟨w0.heap.size+1,0,none⟩)),(38,.slice (some ⟨g,0,none⟩) b.length c),(39,.int .i64 b.length),(40,.int .i64 (i:Nat))] ∧
  TE w0 nm e h j g d (b.take i) l n m w∧k=b.length-i∧i≤b.length
theorem XA (w0 w:World) (nm:Bs×Bs) (i5:Nat) (i6 i7:Int) (g P:Nat) (s:Array Value) (b:List cV) (E:b.length≤1000000000) (hg:g<w0.heap.size) (D:s.toList.take (b.length*3)=aO b) (h:TE w0 nm i5 i6 i7 g s [] none 0 0 w) (Q:Exit→Act→World→Prop)
  (hQ:∀ f w' H L I,TE w0 nm i5 i6 i7 g s b H L I w'→Q .normal (fr 104 f [(4,.pointer (some ⟨w0.heap.size,0,none⟩)),(5,.pointer (some ⟨w0.heap.size+1,0,none⟩))]) w') (f:Nat→Value) (c1:Code) (a8:c1=.loop (iK 8)) :
  c1.wp prog (Exit.inBlock 1 Q) (fr 104 f [(4,.pointer (some ⟨w0.heap.size,0,none⟩)),(5,.pointer (some ⟨w0.heap.size+1,0,none⟩)),(38,.slice (some ⟨g,0,none⟩) b.length P),(39,.int .i64 b.length),(40,.int .i64 0)]) w:=by
 subst a8;have ⟨HQ,C,M,O⟩:=kY hQ E D hg;refine wp_loop_ghost_k (ZR w0 nm i5 i6 i7 g P s b) b.length ⟨f,0,none,0,0,rfl,by simpa using h,by simp,kW _⟩ ?_;clear hQ E D hg h;rintro k _ w ⟨f,i,H,L,I,rfl,hs,d,hi⟩ J K2 hJ R;have ⟨HJ,a2,c,HK⟩:=kY hJ R hs d;clear hJ R hs d;unfold iK;conv=>arg 2;whnf
 by_cases Z:i<b.length
 ·have h1:(i:Int)<(b.length:Int):=by omega
  have h0:(0:Int)≤(i:Int):=by omega
  have b7:IntKind.i64.wrap ((i:Int)+1)=((i+1:Nat):Int):=by rw [IntKind.wrap_i64];have:=C.o;omega
  obtain ⟨a,ha⟩:∃ a,b[i]?=some a:=⟨b[i],by simp [Z]⟩;obtain ⟨k1,k2,k3⟩:=tG M.o ha;have V:w.cell? ⟨g,i*3,none⟩=some (aB a.1):=(c.o.src.cell _).trans k1;have W:w.cell? ⟨g,i*3+1,none⟩=some (aB a.2.1):=(c.o.src.cell _).trans k2;have X:w.cell? ⟨g,i*3+2,none⟩=some (aB a.2.2):=(c.o.src.cell _).trans k3;have o:b.take (i+1)=b.take i++[a]:=by rw [List.take_succ,ha];rfl
  have b2:(b.take i).length=i:=by simp;omega
  obtain ⟨B,x⟩:=cR (w.alloc (.cells #[aB a.1,aB a.2.1,aB a.2.2] 103));have U:Below w.heap.size w B:=by rw [x];exact (Below.refl _ w).alloc (dC _) _
  have j:aK (fun _=>False) w B:=aH U _;have u:aJ B w.heap.size #[aB a.1,aB a.2.1,aB a.2.2] 103:=by rw [x];exact aJ.new w _ _
  have aC:w.heap.size<B.heap.size:=u.lt;have v:=c.o.t5.mod j id;have a0:=c.o.z.mod j id;obtain ⟨b5,w4,F,n,Y,e⟩:=GZ B w0.heap.size (by have:=c.o.sz;omega) (.slice H L I) (b.take i) (by have:=C.o;omega) (aE c.o.row j (fun _ _=>id)) a;obtain ⟨y,A,z,rfl⟩:=nU n;have bA:=u.cell;have b0:=u.frozen;have a9:=v.cell;have bC:=v.frozen;have ⟨N,HO,a3,q,a5,a7⟩:=iD Y n e j v a0;have ⟨a6,a4⟩:=cH o aC;clear k1 k2 k3 ha Y n e j U u v a0 o b2 aC;(repeat ((fail_if_success with_reducible refine tF 10 ?_);(first|(with_reducible first|refine zA fun K hK=>?_|refine zB ?_|refine zC ?_)|((with_reducible first|refine zD rfl fun K hK=>?_|refine zE fun K hK=>?_);go_simp)|(with_reducible first|((repeat ((fail_if_success refine hK _ _ ?_);clear hK K));refine hK _ _ ?_;clear hK K)|refine zt ?_|refine zf ?_|refine zG ?_|refine zR ?_|refine zK ?_|refine zL ?_|refine zN ?_|refine zS ?_)|simp only [Exit.then,Exit.inBlock,Exit.noGoto,↓reduceIte,Nat.reduceEqDiff]|simp only [undef,reduceCtorEq,↓reduceIte])));rw [show w.alloc (.cells #[.string ⟨List.toArray a.1⟩,.string ⟨List.toArray a.2.1⟩,.string ⟨List.toArray a.2.2⟩] 103)=B from x.symm];clear x V W X;revert K;refine vB ?_;intro K hK;refine fI rfl (.tmp 45) (.tmp 55) _ _ rfl _ _ _ (by rw [cB (by decide)];(try simp only [aL,aP,aR,aZ,Nat.reduceEqDiff,↓reduceIte]);(try rfl)) (by rw [cB (by decide)];(try simp only [aL,aP,aR,aZ,Nat.reduceEqDiff,↓reduceIte]);(try rfl)) F ?_;clear F;rw [fO (by decide)];have G:aK (fun k=>(Value.slice H L I).ownBlock=some k) B w4:=(aH ((Below.refl _ B).alloc (dC _) _) _).trans (S':=fun k=>(Value.slice H L I).ownBlock=some k) ⟨N.o.os,N.o.tape,N.o.output,N.o.size,fun k d hn=>N.o.block k d (fun l=>hn l.symm)⟩ (fun i _ hi=>hi);have t:=a5.o.mod G (fun l=>(c.o.rowS _ l).2 rfl);have b3:=t.cell;have b4:=t.frozen;have ⟨a1,r⟩:=cH t G;clear t G a9 bC bA b0;revert K;refine vg ?_;refine Kk [4,5,38,39,40] fun f=>?_;have T:∀ k,(Value.slice H L I).ownBlock=some k→w0.heap.size≤k:=fun k d=>(aS c.o.row d).2;have m:aK (fun k=>k=w0.heap.size+1) w4 (w4.setCell ⟨w0.heap.size+1,3,none⟩ (.slice y A z)):=(aK.refl (fun k=>k=w0.heap.size+1) w4).setCell (p:=⟨w0.heap.size+1,3,none⟩) (aG rfl) _;have aA:∀ k,(Value.slice y A z).ownBlock=some k→k≠w0.heap.size∧k≠w0.heap.size+1:=fun k d=>by
   rcases a3.o with e|e
   ·exact c.o.rowS k (e▸d)
   ·rw [e] at d;have b6:B.heap.size+1=k:=by simpa using d
    have:=c.o.sz;have:=a4.o;omega
  have S:Below w0.heap.size w0 w4:=aK.below (aK.below c.o.below c.o.below.size q.o (fun _ h=>h.elim)) (gA c.o.below.size q.o.size) r.o T;refine a2.o _ _ ⟨b.length-(i+1),by rw [HK.o];omega,HJ.o _ _ _ ⟨f,i+1,y,A,z,rfl,?_,rfl,Z⟩⟩;rw [a6.o];refine ⟨aK.below S S.size m (fun k d=>by omega),?_,?_,?_,aE HO.o m (fun k d l=>(aA k d).2 l),aA,?_⟩
  ·exact (a7.o.mod r.o (fun l=>(c.o.rowS _ l).1 rfl)).mod m (fun l=>by omega)
  ·exact a1.o.set 3 (.slice y A z)
  ·refine ((c.o.src.mod q.o id).mod r.o (fun l=>?_)).mod m (fun l=>?_)
   ·have:=T _ l;have:=O.o;omega
   ·have:=O.o;omega
  ·have:=c.o.sz;have:=q.o.size;have:=r.o.size;have:=m.size;omega
 ·have b1:i=b.length:=by omega
  subst b1;have h1:¬ ((b.length:Int)<(b.length:Int)):=by omega
  refine vg ?_;intro K hK;refine Qk [4,5] fun f=>?_;have h2:=c.o;rw [List.take_length] at h2;exact HQ.o f w H L I h2
theorem TF {li co:Nat} (w0 w:World) (z:Nat) (A B:Int) (u:Below w0.heap.size w0 w) (L:w0.heap.size+2≤w.heap.size) (hz:aJ w w0.heap.size lW 38) (X:aJ w (w0.heap.size+1) #[.int .i64 0,.string ⟨#[]⟩,.string ⟨#[]⟩,.slice none 0 0,.string ⟨#[]⟩,.int .i64 z,.int .i64 A,.int .i64 B] 38)
  (nm:Bs×Bs) (c:List cV) (t:c.length≤1000000000) (g m:Nat) (i:Array Value) (hg:g<w0.heap.size) (I:aJ w g i 103) (r:i.toList.take (c.length*3)=aO c) (f:Nat→Value) :
  (iK 3).wp prog (qM (yO w0 ⟨1,nm.1,nm.2,c,[],z,li,co⟩ A B)) (fr 104 f [(0,Bc nm (.slice (some ⟨g,0,none⟩) c.length m)),(4,.pointer (some ⟨w0.heap.size,0,none⟩)),(5,.pointer (some ⟨w0.heap.size+1,0,none⟩))]) w:=by
 have t0:=fun a b s w=>VI a b s w;have V:w.heap.size≠w0.heap.size+1:=by omega
 have aA:w0.heap.size+1≠w.heap.size:=by omega
 obtain ⟨l,q⟩:=cR (w.alloc (.cells #[aB nm.1,aB nm.2,.slice (some ⟨g,0,none⟩) c.length m] 101));have d:Below w.heap.size w l:=by rw [q];exact (Below.refl _ w).alloc (dC _) _
 have v:aJ l w.heap.size #[aB nm.1,aB nm.2,.slice (some ⟨g,0,none⟩) c.length m] 101:=by rw [q];exact aJ.new w _ _
 have n:aJ l (w0.heap.size+1) _ _:=aJ.mod (S:=fun _=>False) X (aH d _) id;have N:aJ l w0.heap.size _ _:=aJ.mod (S:=fun _=>False) hz (aH d _) id;have H:aJ l g i _:=aJ.mod (S:=fun _=>False) I (aH d _) id;have ⟨HB,HZ,HG,P⟩:=kY n N H v;have W:=Lh (u.trans (d.mono u.size));have R:=Lh (show w0.heap.size+2≤l.heap.size from gA L d.size);have ⟨D,C⟩:=cH t r;have T:w0.heap.size≠w0.heap.size+1:=by omega
 have hc:=n.cell;have hf:=n.frozen;have U:=v.cell;clear u hz X v d n N H I L t r;conv=>arg 2;unfold iK;whnf
 refine vg ?_;intro K hK K hK;rw [←q];clear q;refine cM [4,5,6] fun f=>?_
 go_region_held3 (fun w'=>w'.cell? ⟨w.heap.size,0,none⟩=some (aB nm.1)∧w'.cell? ⟨w.heap.size,1,none⟩=some (aB nm.2))
  (go_keep)
  (fail)
 obtain ⟨O,o⟩:=cR ((((l.setCell ⟨w0.heap.size+1,0,none⟩ (.int .i64 1)).setCell ⟨w0.heap.size+1,1,none⟩ (aB nm.1)).setCell ⟨w0.heap.size+1,2,none⟩ (aB nm.2)).drew);rw [show (((l.setCell ⟨w0.heap.size+1,0,none⟩ (.int .i64 1)).setCell ⟨w0.heap.size+1,1,none⟩ (.string ⟨List.toArray nm.1⟩)).setCell ⟨w0.heap.size+1,2,none⟩ (.string ⟨List.toArray nm.2⟩)).drew=O from o.symm];have h:aK (fun k=>k=w0.heap.size+1) l O:=by
  rw [o];exact ((((aK.refl (fun k=>k=w0.heap.size+1) l).setCell (p:=⟨w0.heap.size+1,0,none⟩) (aG rfl) _).setCell (p:=⟨w0.heap.size+1,1,none⟩) (aG rfl) _).setCell (p:=⟨w0.heap.size+1,2,none⟩) (aG rfl) _).drewN 1
 have M:aJ O (w0.heap.size+1) #[.int .i64 1,aB nm.1,aB nm.2,.slice none 0 0,.string ⟨#[]⟩,.int .i64 z,.int .i64 A,.int .i64 B] 38:=by
  rw [o];exact ((((show aJ l (w0.heap.size+1) _ _ from HB.o).set 0 (.int .i64 1)).set 1 (aB nm.1)).set 2 (aB nm.2)).drew
 have j:=P.o.mod h V;have J:TE w0 nm z A B g i [] none 0 0 O:=⟨aK.below W.o W.o.size h (fun k y=>by omega),HZ.o.mod h T,M,HG.o.mod h (by omega),A4 _ _,fun k y=>(by cases y),(by have:=R.o;have:=h.size;omega)⟩;have E:=Lh (fun Q hQ f c1 e=>XA w0 O nm z A B g m i c D.o hg C.o J Q hQ f c1 e);have F:=j.cell;have G:=j.frozen;clear j M J o hc hf U h;(repeat revert K);refine vg ?_;intro K hK;refine cM [4,5,38,39,40] fun f=>?_;refine E.o _ ?_ f _ (by kernel_rfl);intro f w' sa sl sc Z;have x:=Lh Z;clear Z E F G;revert K;refine vT 27 ?_;refine Kk [4,5] fun f=>?_;refine bB (A3 _ w0.heap.size 1 nm.1 nm.2 [] sa sl sc z A B x.o.z x.o.t5 _ (fun w' Y=>⟨⟨sa,sl,sc,rfl,?_⟩,?_⟩) f) (by kernel_rfl)
 ·exact aE x.o.row Y (fun k y he=>(x.o.rowS k y).1 he)
 ·exact aK.below x.o.below x.o.below.size Y (fun k y=>by rw [y];exact dC _)
theorem ZS (a b c:Bs) (w:World):(binOp .neq 68 (.agg #[aB a,aB b,aB c]) (.agg #[aB a,aB b,aB c])).run prog w=.ok (.bool false) w:=by
 have e:∀ (d:Nat) (x:Bs) (w:World),(Op.equalIn (d+1) 9 (aB x) (aB x)).run prog w=.ok true w:=fun d x w=>by
  rw [run_equalIn_string w d _ _ _ underlying9];simp
 have f:=underlying9;rw [run_neq_struct,show (10000:Nat)=9999+1 from rfl,run_equalIn_agg w 9999 _ _ _ (by kernel_rfl) (by kernel_rfl)];simp only [Program.fieldsOf,underlying68];go_simp
abbrev Cb (p:cA) (a:Option Addr) (c b:Nat):Value:=.agg #[.int .i64 p.kind,aB p.space,aB p.loc,.slice a c b,aB p.text,.int .i64 p.at']
def ZT (w1:World) (b:Nat) (n:Nat) (k:Nat) (a:Act) (w:World):Prop:=
 ∃ f i,a=fr 59 f [(2,.pointer (some ⟨b,0,none⟩)),(3,.pointer (some ⟨b+1,0,none⟩)),(43,.int .i64 (n:Nat)),(44,.int .i64 (i:Nat))]∧(∃ j,w=w1.drewN j)∧k=n-i∧i≤n
theorem jU {w:World} {d:Nat} {e:TypeId} {k:Option Addr} {l r:Nat} {b:List cV} (h:w.ownsRow d e 3 (.slice k l r) b.length (aO b)) {i:Nat} {a:cV} (j:b[i]?=some a) :
  ∃ g,k=some ⟨g,0,none⟩∧l=b.length∧w.cell? ⟨g,i*3,none⟩=some (aB a.1)∧w.cell? ⟨g,i*3+1,none⟩=some (aB a.2.1)∧w.cell? ⟨g,i*3+2,none⟩=some (aB a.2.2):=by
 have t:=(FP.1 j).1;rcases h.2 with ⟨_,s⟩|⟨g,cap,cur,f,_,m,_,_,_,n⟩
 ·omega
 ·simp only [Value.slice.injEq] at f;obtain ⟨rfl,rfl,rfl⟩:=f;obtain ⟨o,p,q⟩:=tG n j;have c:aJ w g cur e:=m;exact ⟨g,rfl,rfl,(c.cell _).trans o,(c.cell _).trans p,(c.cell _).trans q⟩
theorem tH {w:World} {a:Nat} {e:TypeId} {d:Option Addr} {c f n:Nat} {j:List Value} {i:Nat} (h:w.ownsRow a e i (.slice d c f) n j):c=n:=by
 rcases h.2 with ⟨b,k⟩|⟨g,cap,cur,b,_⟩
 ·simp only [Value.slice.injEq] at b;omega
 ·simp only [Value.slice.injEq] at b;exact b.2.1
theorem TG (w0:World) (p:cA) (C:Nat) (h:p.attrs.length≤1000000000) (b1 z:Nat) (x:Option Addr) (U l:Nat) (e:Option Addr) (y d:Nat) (n:w0.ownsRow b1 68 3 (.slice x U l) p.attrs.length (aO p.attrs)) (H:w0.ownsRow z 68 3 (.slice e y d) p.attrs.length (aO p.attrs)) :
  Calls prog 22 #[Cb p x U l,Cb { p with at':=C } e y d] w0 fun en w'=>en=.returned (.bool true)∧Below w0.heap.size w0 w':=by
 have e1:=tH n;have e2:=tH H;subst e1 e2;obtain ⟨w1,c⟩:=cR ((w0.alloc (.cells #[.int .i64 p.kind,aB p.space,aB p.loc,.slice x p.attrs.length l,aB p.text,.int .i64 p.at'] 35)).alloc (.cells #[.int .i64 p.kind,aB p.space,aB p.loc,.slice e p.attrs.length d,aB p.text,.int .i64 C] 35));have g:Below w0.heap.size w0 w1:=by rw [c];exact ((Below.refl _ w0).alloc (dC _) _).alloc (by simp) _
 have q:aJ w1 w0.heap.size #[.int .i64 p.kind,aB p.space,aB p.loc,.slice x p.attrs.length l,aB p.text,.int .i64 p.at'] 35:=by rw [c];exact (aJ.new w0 _ _).alloc _
 have r:aJ w1 (w0.heap.size+1) #[.int .i64 p.kind,aB p.space,aB p.loc,.slice e p.attrs.length d,aB p.text,.int .i64 C] 35:=by
  have:=aJ.new (w0.alloc (.cells #[.int .i64 p.kind,aB p.space,aB p.loc,.slice x p.attrs.length l,aB p.text,.int .i64 p.at'] 35)) #[.int .i64 p.kind,aB p.space,aB p.loc,.slice e p.attrs.length d,aB p.text,.int .i64 C] 35;rw [c];simpa using this
 have V:=Lh (aE (S:=fun _=>False) n (aH g _) (fun _ _=>id));have W:=Lh (aE (S:=fun _=>False) H (aH g _) (fun _ _=>id));have ⟨D,X,Y,m⟩:=kY g q r h;clear n H g q r h;refine eT 59 func22 [_,_] fun f=>?_;simp only [aF];refine vT 1 ?_;rw [←c];clear c;have s:=X.o.cell;have t:=Y.o.cell;refine vg ?_;intro K hK;refine cM [2,3,43,44] fun f=>?_;have ⟨E,F⟩:=cH s t;clear s t;refine wp_loop_ghost_k (ZT w1 w0.heap.size p.attrs.length) p.attrs.length ⟨f,0,rfl,⟨0,rfl⟩,by simp,kW _⟩ ?_;rintro k _ w ⟨f,i,rfl,⟨j,u⟩,T,hi⟩ J K2 P o;have b:=Lh u;clear u;have ⟨Z,G,HK⟩:=lQ P o T;clear P o T;by_cases v:i<p.attrs.length
 ·have n:(i:Int)<(p.attrs.length:Int):=by omega
  have h0:(0:Int)≤(i:Int):=by omega
  have c:IntKind.i64.wrap ((i:Int)+1)=((i+1:Nat):Int):=by rw [IntKind.wrap_i64];have:=m.o;omega
  obtain ⟨a,I⟩:∃ a,p.attrs[i]?=some a:=⟨p.attrs[i],by simp [v]⟩;obtain ⟨A,rfl,_,M,N,O⟩:=jU V.o I;obtain ⟨B,rfl,_,b0,b1,z⟩:=jU W.o I;have aA:w.cell? ⟨A,i*3,none⟩=some (aB a.1):=by rw [b.o];exact M
  have aC:w.cell? ⟨A,i*3+1,none⟩=some (aB a.2.1):=by rw [b.o];exact N
  have a3:w.cell? ⟨A,i*3+2,none⟩=some (aB a.2.2):=by rw [b.o];exact O
  have a4:w.cell? ⟨B,i*3,none⟩=some (aB a.1):=by rw [b.o];exact b0
  have a5:w.cell? ⟨B,i*3+1,none⟩=some (aB a.2.1):=by rw [b.o];exact b1
  have a6:w.cell? ⟨B,i*3+2,none⟩=some (aB a.2.2):=by rw [b.o];exact z
  have Q:w.cell? ⟨w0.heap.size,3,none⟩=some (.slice (some ⟨A,0,none⟩) p.attrs.length l):=by rw [b.o];exact E.o 3
  have R:w.cell? ⟨w0.heap.size+1,3,none⟩=some (.slice (some ⟨B,0,none⟩) p.attrs.length d):=by rw [b.o];exact F.o 3
  have a7:=fun w=>ZS a.1 a.2.1 a.2.2 w;clear I M N O b0 b1 z;revert K;refine vg ?_;intro K hK K hK K hK;refine cM [2,3,5,43,44] fun f=>?_;go_quiet (fail);(repeat revert K);refine vg ?_;intro K hK;refine Kk [2,3,43,44] fun f=>?_;exact G.o _ _ ⟨p.attrs.length-(i+1),by rw [HK.o];omega,Z.o _ _ _ ⟨f,i+1,rfl,⟨j+nq,by rw [b.o,World.drewN_drewN]⟩,rfl,v⟩⟩
 ·have L:i=p.attrs.length:=by omega
  subst L;have n:¬ ((p.attrs.length:Int)<(p.attrs.length:Int)):=by omega
  revert K;refine vg ?_;refine cX ?_;exact ⟨rfl,by rw [b.o];exact cL D.o j⟩
theorem nG.col' {x:Cx} {v:DV} {rest:Bs} (c:x.Ok) (h:nG x v rest):-1000000000000≤v.off-v.lstart∧v.off-v.lstart≤1000000000000:=by
 by_cases a:v.nb=10
 ·obtain ⟨pre,e,f,_,_,b⟩:=h;have d:=b a;omega
 ·exact h.col c a
theorem l4.lt {x:Cx} {w:World} {v:Value} {b:Bs} (h:l4 x w v b) {g c n:Nat} (a:v=.slice (some ⟨g,0,none⟩) n c):g<w.heap.size:=by
 rcases h with ⟨d,_⟩|⟨g',cap',arr,d,e,_⟩
 ·rw [d] at a;cases a
 ·rw [d] at a;simp only [Value.slice.injEq,kQ,Addr.mk.injEq] at a;obtain ⟨⟨rfl,_⟩,_⟩:=a;exact e.lt
theorem XB (x:Cx) (M:x.Ok) (c:DC) (w:World) (v:DV) (rest:Bs) (e:Option EK) (C:Bs) (l:cD x c w v rest e C) (pre:Bs) (t:x.T=pre++rest) (B:Nat) (A:Value) (z:aU) (o:iT w v.bufv B A z) (E:∀ nm k,z=.start nm k→k.length≤1000000000) :
  Calls prog 20 #[A,bV x] w (yO w (z.itok pre) v.line (v.off-v.lstart+1)):=by
 obtain ⟨b1,I⟩:=l.pos.col' M;have G:v.off=(pre.length:Int):=by
  obtain ⟨p,J,G,_⟩:=l.pos;have:p=pre:=List.append_cancel_right (by rw [←J,←t]);rw [←this];exact G
 refine S9 x c w v l.dec b1 I A _ (fun f w' a q L m=>?_);have j:aJ w' (w.heap.size+1) #[.int .i64 0,.string ⟨#[]⟩,.string ⟨#[]⟩,.slice none 0 0,.string ⟨#[]⟩,.int .i64 (pre.length:Nat),.int .i64 v.line,.int .i64 (v.off-v.lstart+1)] 38:=by
  rw [←G];exact L
 cases z with
 | text d=>
  obtain ⟨y,rfl,⟨g,b,n,rfl,h,i,_⟩⟩:=o;exact W9 w w' pre.length _ _ a q j d g b (i.below a) (l.bf.lt h) f
 | comment d=>
  obtain ⟨y,rfl,⟨g,b,n,rfl,h,i,_⟩⟩:=o;exact ZN w w' pre.length _ _ a q j d g b (i.below a) (l.bf.lt h) f
 | dir d=>
  obtain ⟨y,rfl,⟨g,b,n,rfl,h,i,_⟩⟩:=o;exact ZO w w' pre.length _ _ a q j d g b (i.below a) (l.bf.lt h) f
 | proc tg d=>
  obtain ⟨y,rfl,⟨g,b,n,rfl,h,i,_⟩⟩:=o;exact ZP w w' pre.length _ _ a m q j tg d g b (i.below a) (l.bf.lt h) f
 | fin nm=>
  rw [show A=MN nm from o];exact ZQ w w' pre.length _ _ a m q j nm f
 | start nm k=>
  obtain ⟨y,rfl,F,u⟩:=o;rcases u.2 with H|⟨g,b,cur,rfl,_,D,_,_,_,r⟩
  ·exact absurd (H.2▸H.1) F
  ·have s:aJ w g cur 103:=D;exact TF w w' pre.length _ _ a m q j nm k (E nm k rfl) g b cur s.lt (aJ.mod (S:=fun _=>False) s (aH a _) id) r f
end Go.Proofs.YthapcchcahnfaaaGreatDoor
