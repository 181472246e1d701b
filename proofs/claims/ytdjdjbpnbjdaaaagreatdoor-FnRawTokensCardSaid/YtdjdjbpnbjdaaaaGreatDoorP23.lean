/- Part of the proof that laws.FnRawTokens returns true for every argument. No conditions. -/
import Derived.Test.YtdjdjbpnbjdaaaaGreatDoorP13
import Derived.Test.YtdjdjbpnbjdaaaaGreatDoorP22
set_option linter.all false
set_option maxHeartbeats 8000000
set_option maxRecDepth 100000
namespace Go.Proofs.YtdjdjbpnbjdaaaaGreatDoor
open Go Go.RowKit Tryz
noncomputable def jD (n:Nat):Code:=((Tryz.f15.body).bind (Code.partAt n)).getD .skip
abbrev nH:Array Value:=#[.int .i64 0,.string ⟨#[]⟩,.string ⟨#[]⟩,.slice none 0 0,.string ⟨#[]⟩,.int .i64 0,.int .i64 0,.int .i64 0]
abbrev uO (R:Ending→World→Prop):Exit→Act→World→Prop:=bodyPost prog Tryz.f15 R
theorem Jt (x:Cx) (c:DC) (w:World) (v:DV) (h:bO w x.d c v) (h1:-1000000000000≤v.off-v.lstart) (h2:v.off-v.lstart≤1000000000000) (tv:Value) (R:Ending→World→Prop)
  (hR:∀ f w',Below w.heap.size w w'→aJ w' w.heap.size nH 55→aJ w' (w.heap.size+1) #[.int .i64 0,.string ⟨#[]⟩,.string ⟨#[]⟩,.slice none 0 0,.string ⟨#[]⟩,.int .i64 v.off,.int .i64 v.line,.int .i64 (v.off-v.lstart+1)] 55→w.heap.size+2≤w'.heap.size →
   (jD 3).wp prog (uO R) (fr 104 f [(0,tv),(4,.pointer (some ⟨w.heap.size,0,none⟩)),(5,.pointer (some ⟨w.heap.size+1,0,none⟩))]) w') :
  Calls prog 15 #[tv,bS x] w R:=by
 have hio:=Lh (fun (w':World) (h:bO w' x.d c v)=>FM x c w' v h)
 have hip:=Lh (fun (w':World) (h:bO w' x.d c v)=>PP x c w' v h h1 h2)
 have HD:=Lh h
 have HR:=Lh hR
 clear h h1 h2 hR
 refine eJ 104 func15 [_,_] fun f=>?_
 simp only [aE]
 (refine vg ?_;(repeat with_reducible intro K hK))
 refine (hio.out _ (show aJ _ x.d _ _ from aJ.alloc HD.out _)).mono ?_
 rintro e1 w1 ⟨rfl,rfl⟩
 ((repeat revert K);refine vS ?_;(repeat with_reducible intro K hK))
 obtain ⟨wA,Yn⟩:∃ wA,wA=(w.alloc (.cells nH 55)).alloc (.cells #[.int .i64 0,.string ⟨#[]⟩,.string ⟨#[]⟩,.slice none 0 0,.string ⟨#[]⟩,.int .i64 v.off,.int .i64 0,.int .i64 0] 55):=⟨_,rfl⟩
 have HBw:=Lh (show Below w.heap.size w wA by rw [Yn];exact ((Below.refl _ w).alloc (Nat.le_refl _) _).alloc (by simp) _)
 have fV:=Lh (show aJ wA w.heap.size nH 55 by rw [Yn];exact (aJ.new w _ _).alloc _)
 have nK:=Lh (show aJ wA (w.heap.size+1) #[.int .i64 0,.string ⟨#[]⟩,.string ⟨#[]⟩,.slice none 0 0,.string ⟨#[]⟩,.int .i64 v.off,.int .i64 0,.int .i64 0] 55 by
  have:=aJ.new (w.alloc (.cells nH 55)) #[.int .i64 0,.string ⟨#[]⟩,.string ⟨#[]⟩,.slice none 0 0,.string ⟨#[]⟩,.int .i64 v.off,.int .i64 0,.int .i64 0] 55
  rw [Yn];simpa using this)
 have W4:=Lh (show w.heap.size+2≤wA.heap.size by rw [Yn];simp)
 have Xp:=Lh (show bO wA x.d c v from aJ.mod (S:=fun _=>False) HD.out (aH HBw.out _) id)
 rw [←Yn]
 clear Yn hio
 refine (hip.out _ Xp.out).mono ?_
 rintro e2 w2 ⟨rfl,n,rfl⟩
 clear hip
 have dJ:aJ (wA.drewN n) (w.heap.size+1) _ _:=nK.out
 have tE:=dJ.cell
 have sZ:=dJ.frozen
 have bP:aJ (wA.drewN n) w.heap.size _ _:=fV.out
 have u7:=bP.cell
 have KM:=bP.frozen
 clear dJ bP
 go_simp
 ((repeat revert K);refine vT 3 ?_)
 (refine cJ [0,4,5] fun f=>?_)
 have E8:w.heap.size≠w.heap.size+1:=by omega
 refine aY (HR.out f _ ?_ ?_ ?_ ?_) (by kernel_rfl)
 ·refine Below.setCell ?_ (by simp) _
  refine Below.setCell ?_ (by simp) _
  exact cA HBw.out n
 ·exact ((show aJ (wA.drewN n) w.heap.size _ _ from fV.out).set_ne (a:=⟨w.heap.size+1,6,none⟩) E8 (.int .i64 v.line)).set_ne (a:=⟨w.heap.size+1,7,none⟩) E8 (.int .i64 (v.off-v.lstart+1))
 ·exact ((show aJ (wA.drewN n) (w.heap.size+1) _ _ from nK.out).set 6 (.int .i64 v.line)).set 7 (.int .i64 (v.off-v.lstart+1))
 ·have:=W4.out
  simpa [World.setCell,World.drewN] using this
theorem GR (w:World) (b:Nat) (k:Int) (s1 s2 s4:Bs) (sa:Option Addr) (sl sc:Nat) (i5 i6 i7:Int) (hz:aJ w b nH 55) (hb:aJ w (b+1) #[.int .i64 k,aB s1,aB s2,.slice sa sl sc,aB s4,.int .i64 i5,.int .i64 i6,.int .i64 i7] 55)
  (R:Ending→World→Prop) (hR:∀ w',aK (fun i=>i=b) w w'→R (.returned (.agg #[.int .i64 k,aB s1,aB s2,.slice sa sl sc,aB s4,.int .i64 i5,.int .i64 i6,.int .i64 i7])) w') (f:Nat→Value) :
  (jD 27).wp prog (uO R) (fr 104 f [(4,.pointer (some ⟨b,0,none⟩)),(5,.pointer (some ⟨b+1,0,none⟩))]) w:=by
 have hc:=hb.cell
 have hf:=hb.frozen
 have hcz:=hz.cell
 have hfz:=hz.frozen
 have HZ:=Lh hz
 have HR:=Lh hR
 clear hb hz hR
 conv=>arg 2;unfold jD;whnf
 refine vg ?_
 refine bodyPost_ret (v:=.agg #[.int .i64 k,aB s1,aB s2,.slice sa sl sc,aB s4,.int .i64 i5,.int .i64 i6,.int .i64 i7]) ?_ (kN _ _ _) ?_
 ·refine results_cell_row (fn:=Tryz.f15) (p:=4) (ty:=55) (by rfl) _ _ b 55 _ (0,0) _ (by rw [lF (by decide)];simp only [aL,aQ,aS,bD,Nat.reduceEqDiff,↓reduceIte]) ?_ underlying55 rfl (by kernel_rfl)
  have hB:=((((((((show aJ w b _ _ from HZ.out).set 0 (.int .i64 k)).set 1 (aB s1)).set 2 (aB s2)).set 3 (.slice sa sl sc)).set 4 (aB s4)).set 5 (.int .i64 i5)).set 6 (.int .i64 i6)).set 7 (.int .i64 i7)
  simp only [List.setIfInBounds_toArray,List.set_cons_zero,List.set_cons_succ] at hB
  exact hB
 ·refine HR.out _ ?_
  repeat (refine aK.setCell (S:=fun i=>i=b) ?_ (Or.inl rfl) _)
  exact aK.refl _ _
theorem a1S (v:Value) (w:World):(Instr.typeAssert (Ya v) 47 118 true).run prog w=.ok (.tuple #[.slice none 0 0,.bool false]) w:=by kernel_rfl
theorem a1T (v:Value) (w:World):(Instr.typeAssert (Ya v) 47 119 true).run prog w=.ok (.tuple #[v,.bool true]) w:=by kernel_rfl
theorem a1U (tg:Bs) (v:Value) (w:World):(Instr.typeAssert (Oa tg v) 47 118 true).run prog w=.ok (.tuple #[.slice none 0 0,.bool false]) w:=by kernel_rfl
theorem a1V (tg:Bs) (v:Value) (w:World):(Instr.typeAssert (Oa tg v) 47 119 true).run prog w=.ok (.tuple #[.slice none 0 0,.bool false]) w:=by kernel_rfl
theorem a1W (tg:Bs) (v:Value) (w:World):(Instr.typeAssert (Oa tg v) 47 121 true).run prog w=.ok (.tuple #[.agg #[aB tg,v],.bool true]) w:=by kernel_rfl
theorem a1X (v:Value) (w:World):(Instr.typeAssert (Nz v) 47 118 true).run prog w=.ok (.tuple #[.slice none 0 0,.bool false]) w:=by kernel_rfl
theorem a1Y (v:Value) (w:World):(Instr.typeAssert (Nz v) 47 119 true).run prog w=.ok (.tuple #[.slice none 0 0,.bool false]) w:=by kernel_rfl
theorem a1Z (v:Value) (w:World):(Instr.typeAssert (Nz v) 47 121 true).run prog w=.ok (.tuple #[.agg #[oO,.slice none 0 0],.bool false]) w:=by kernel_rfl
theorem a1a (v:Value) (w:World):(Instr.typeAssert (Nz v) 47 122 true).run prog w=.ok (.tuple #[v,.bool true]) w:=by kernel_rfl
theorem Ju (l:Bs) (w:World) (b off cap:Nat) (h:bG w b off l):(convert 119 9 (.slice (some ⟨b,off,none⟩) l.length cap)).run prog w=.ok (aB l) w:=
 Lib.run_convert_whole (P:=prog) w 119 5 9 underlying119 underlying5 underlying9 b off ⟨l.toArray⟩ h.toBytes cap
theorem Jv (l:Bs) (w:World) (b off cap:Nat) (h:bG w b off l):(convert 122 9 (.slice (some ⟨b,off,none⟩) l.length cap)).run prog w=.ok (aB l) w:=
 Lib.run_convert_whole (P:=prog) w 122 5 9 underlying122 underlying5 underlying9 b off ⟨l.toArray⟩ h.toBytes cap
theorem Jw (l:Bs) (w:World) (b off cap:Nat) (h:bG w b off l):(convert 77 9 (.slice (some ⟨b,off,none⟩) l.length cap)).run prog w=.ok (aB l) w:=
 Lib.run_convert_whole (P:=prog) w 77 5 9 underlying77 underlying5 underlying9 b off ⟨l.toArray⟩ h.toBytes cap
structure D1 (w0:World) (p:cH) (i6 i7:Int) (en:Ending) (w':World):Prop where
 ex:∃ sa sl sc,en=.returned (.agg #[.int .i64 p.kind,aB p.space,aB p.loc,.slice sa sl sc,aB p.text,.int .i64 p.at',.int .i64 i6,.int .i64 i7])∧w'.ownsRow w0.heap.size 63 3 (.slice sa sl sc) p.attrs.length (aN p.attrs)
 below:Below w0.heap.size w0 w'
theorem GS (w:World) (b:Nat):w.ownsRow b 63 3 (.slice none 0 0) ([]:List eI).length (aN []):=⟨rfl,Or.inl ⟨rfl,rfl⟩⟩
theorem Uf {li co:Nat} (w0 w:World) (i5:Nat) (i6 i7:Int) (eZ:Below w0.heap.size w0 w) (hz:aJ w w0.heap.size nH 55) (hb:aJ w (w0.heap.size+1) #[.int .i64 0,.string ⟨#[]⟩,.string ⟨#[]⟩,.slice none 0 0,.string ⟨#[]⟩,.int .i64 i5,.int .i64 i6,.int .i64 i7] 55)
  (d:Bs) (g cap:Nat) (lY:bG w g 0 d) (hg:g<w0.heap.size) (f:Nat→Value):(jD 3).wp prog (uO (D1 w0 ⟨3,[],[],[],d,i5,li,co⟩ i6 i7)) (fr 104 f [(0,Xx (.slice (some ⟨g,0,none⟩) d.length cap)),(4,.pointer (some ⟨w0.heap.size,0,none⟩)),(5,.pointer (some ⟨w0.heap.size+1,0,none⟩))]) w:=by
 have t0:=fun v w=>Nx v w
 have t1:=fun v w=>ZS v w
 have t2:=fun v w=>a0U v w
 have cB:g≠w0.heap.size+1:=by omega
 have hc:=hb.cell
 have hf:=hb.frozen
 have HB:=Lh hb
 have HZ:=Lh hz
 have HL:=Lh eZ
 have HY:=Lh lY
 have E8:w0.heap.size≠w0.heap.size+1:=by omega
 clear eZ hz hb lY
 conv=>arg 2;unfold jD;whnf
 (refine vg ?_;intro K hK)
 (refine cJ [4,5,10] fun f=>?_)
 go_region_held3 (fun w'=>(convert 118 9 (.slice (some ⟨g,0,none⟩) d.length cap)).run prog w'=.ok (aB d) w')
  (exact Ij d _ g 0 cap (by repeat (first|exact HY.out|refine bG.setCell ?_ cB _|refine bG.drew ?_)))
  (fail)
 (revert K;refine vT 27 ?_)
 (refine cJ [4,5] fun f=>?_)
 refine aY (GR _ w0.heap.size 3 [] [] d none 0 0 i5 i6 i7 ?_ ?_ _ (fun w' hm=>⟨⟨none,0,0,rfl,GS _ _⟩,?_⟩) f) (by kernel_rfl)
 ·exact (((show aJ w w0.heap.size _ _ from HZ.out).set_ne (a:=⟨w0.heap.size+1,0,none⟩) E8 (.int .i64 3)).set_ne (a:=⟨w0.heap.size+1,4,none⟩) E8 (aB d)).drew
 ·exact (((show aJ w (w0.heap.size+1) _ _ from HB.out).set 0 (.int .i64 3)).set 4 (aB d)).drew
 ·refine aK.below (B:=w0.heap.size) ?_ ?_ hm (fun k hk=>by rw [hk];exact Nat.le_refl _)
  ·refine Below.drew ?_
   repeat (refine Below.setCell ?_ (by simp) _)
   exact HL.out
  ·have:=HL.out.size
   simpa [World.setCell,World.drew] using this
theorem a1b {li co:Nat} (w0 w:World) (i5:Nat) (i6 i7:Int) (eZ:Below w0.heap.size w0 w) (hz:aJ w w0.heap.size nH 55) (hb:aJ w (w0.heap.size+1) #[.int .i64 0,.string ⟨#[]⟩,.string ⟨#[]⟩,.slice none 0 0,.string ⟨#[]⟩,.int .i64 i5,.int .i64 i6,.int .i64 i7] 55)
  (d:Bs) (g cap:Nat) (lY:bG w g 0 d) (hg:g<w0.heap.size) (f:Nat→Value):(jD 3).wp prog (uO (D1 w0 ⟨4,[],[],[],d,i5,li,co⟩ i6 i7)) (fr 104 f [(0,Ya (.slice (some ⟨g,0,none⟩) d.length cap)),(4,.pointer (some ⟨w0.heap.size,0,none⟩)),(5,.pointer (some ⟨w0.heap.size+1,0,none⟩))]) w:=by
 have t0:=fun v w=>On v w
 have t1:=fun v w=>Bc v w
 have t2:=fun v w=>a1S v w
 have t3:=fun v w=>a1T v w
 have cB:g≠w0.heap.size+1:=by omega
 have hc:=hb.cell
 have hf:=hb.frozen
 have HB:=Lh hb
 have HZ:=Lh hz
 have HL:=Lh eZ
 have HY:=Lh lY
 have E8:w0.heap.size≠w0.heap.size+1:=by omega
 clear eZ hz hb lY
 conv=>arg 2;unfold jD;whnf
 (refine vg ?_;intro K hK)
 (refine cJ [4,5,11] fun f=>?_)
 go_region_held3 (fun w'=>(convert 119 9 (.slice (some ⟨g,0,none⟩) d.length cap)).run prog w'=.ok (aB d) w')
  (exact Ju d _ g 0 cap (by repeat (first|exact HY.out|refine bG.setCell ?_ cB _|refine bG.drew ?_)))
  (fail)
 (revert K;refine vT 27 ?_)
 (refine cJ [4,5] fun f=>?_)
 refine aY (GR _ w0.heap.size 4 [] [] d none 0 0 i5 i6 i7 ?_ ?_ _ (fun w' hm=>⟨⟨none,0,0,rfl,GS _ _⟩,?_⟩) f) (by kernel_rfl)
 ·exact (((show aJ w w0.heap.size _ _ from HZ.out).set_ne (a:=⟨w0.heap.size+1,0,none⟩) E8 (.int .i64 4)).set_ne (a:=⟨w0.heap.size+1,4,none⟩) E8 (aB d)).drew
 ·exact (((show aJ w (w0.heap.size+1) _ _ from HB.out).set 0 (.int .i64 4)).set 4 (aB d)).drew
 ·refine aK.below (B:=w0.heap.size) ?_ ?_ hm (fun k hk=>by rw [hk];exact Nat.le_refl _)
  ·refine Below.drew ?_
   repeat (refine Below.setCell ?_ (by simp) _)
   exact HL.out
  ·have:=HL.out.size
   simpa [World.setCell,World.drew] using this
theorem a1c {li co:Nat} (w0 w:World) (i5:Nat) (i6 i7:Int) (eZ:Below w0.heap.size w0 w) (hz:aJ w w0.heap.size nH 55) (hb:aJ w (w0.heap.size+1) #[.int .i64 0,.string ⟨#[]⟩,.string ⟨#[]⟩,.slice none 0 0,.string ⟨#[]⟩,.int .i64 i5,.int .i64 i6,.int .i64 i7] 55)
  (d:Bs) (g cap:Nat) (lY:bG w g 0 d) (hg:g<w0.heap.size) (f:Nat→Value):(jD 3).wp prog (uO (D1 w0 ⟨6,[],[],[],d,i5,li,co⟩ i6 i7)) (fr 104 f [(0,Nz (.slice (some ⟨g,0,none⟩) d.length cap)),(4,.pointer (some ⟨w0.heap.size,0,none⟩)),(5,.pointer (some ⟨w0.heap.size+1,0,none⟩))]) w:=by
 have t0:=fun v w=>Oo v w
 have t1:=fun v w=>Bd v w
 have t2:=fun v w=>a1X v w
 have t3:=fun v w=>a1Y v w
 have t4:=fun v w=>a1Z v w
 have t5:=fun v w=>a1a v w
 have cB:g≠w0.heap.size+1:=by omega
 have hc:=hb.cell
 have hf:=hb.frozen
 have HB:=Lh hb
 have HZ:=Lh hz
 have HL:=Lh eZ
 have HY:=Lh lY
 have E8:w0.heap.size≠w0.heap.size+1:=by omega
 clear eZ hz hb lY
 conv=>arg 2;unfold jD;whnf
 (refine vg ?_;intro K hK)
 (refine cJ [4,5,13] fun f=>?_)
 go_region_held3 (fun w'=>(convert 122 9 (.slice (some ⟨g,0,none⟩) d.length cap)).run prog w'=.ok (aB d) w')
  (exact Jv d _ g 0 cap (by repeat (first|exact HY.out|refine bG.setCell ?_ cB _|refine bG.drew ?_)))
  (fail)
 (revert K;refine vT 27 ?_)
 (refine cJ [4,5] fun f=>?_)
 refine aY (GR _ w0.heap.size 6 [] [] d none 0 0 i5 i6 i7 ?_ ?_ _ (fun w' hm=>⟨⟨none,0,0,rfl,GS _ _⟩,?_⟩) f) (by kernel_rfl)
 ·exact (((show aJ w w0.heap.size _ _ from HZ.out).set_ne (a:=⟨w0.heap.size+1,0,none⟩) E8 (.int .i64 6)).set_ne (a:=⟨w0.heap.size+1,4,none⟩) E8 (aB d)).drew
 ·exact (((show aJ w (w0.heap.size+1) _ _ from HB.out).set 0 (.int .i64 6)).set 4 (aB d)).drew
 ·refine aK.below (B:=w0.heap.size) ?_ ?_ hm (fun k hk=>by rw [hk];exact Nat.le_refl _)
  ·refine Below.drew ?_
   repeat (refine Below.setCell ?_ (by simp) _)
   exact HL.out
  ·have:=HL.out.size
   simpa [World.setCell,World.drew] using this
theorem a1d {li co:Nat} (w0 w:World) (i5:Nat) (i6 i7:Int) (eZ:Below w0.heap.size w0 w) (gE:w0.heap.size+2≤w.heap.size) (hz:aJ w w0.heap.size nH 55) (hb:aJ w (w0.heap.size+1) #[.int .i64 0,.string ⟨#[]⟩,.string ⟨#[]⟩,.slice none 0 0,.string ⟨#[]⟩,.int .i64 i5,.int .i64 i6,.int .i64 i7] 55)
  (tg d:Bs) (g cap:Nat) (lY:bG w g 0 d) (hg:g<w0.heap.size) (f:Nat→Value):(jD 3).wp prog (uO (D1 w0 ⟨5,[],tg,[],d,i5,li,co⟩ i6 i7)) (fr 104 f [(0,Oa tg (.slice (some ⟨g,0,none⟩) d.length cap)),(4,.pointer (some ⟨w0.heap.size,0,none⟩)),(5,.pointer (some ⟨w0.heap.size+1,0,none⟩))]) w:=by
 have t0:=fun tg v w=>Oq tg v w
 have t1:=fun tg v w=>Be tg v w
 have t2:=fun tg v w=>a1U tg v w
 have t3:=fun tg v w=>a1V tg v w
 have t4:=fun tg v w=>a1W tg v w
 have cB:g≠w0.heap.size+1:=by omega
 have gK:w.heap.size≠w0.heap.size+1:=by omega
 have O8:w0.heap.size+1≠w.heap.size:=by omega
 have iE:Below w.heap.size w (w.alloc (.cells #[aB tg,.slice (some ⟨g,0,none⟩) d.length cap] 121)):=(Below.refl _ w).alloc (Nat.le_refl _) _
 obtain ⟨wn,PF⟩:∃ wn,wn=w.alloc (.cells #[aB tg,.slice (some ⟨g,0,none⟩) d.length cap] 121):=⟨_,rfl⟩
 have lC:aJ wn w.heap.size #[aB tg,.slice (some ⟨g,0,none⟩) d.length cap] 121:=by rw [PF];exact aJ.new w _ _
 rw [←PF] at iE
 have bP:aJ wn (w0.heap.size+1) _ _:=aJ.mod (S:=fun _=>False) hb (aH iE _) id
 have iR:aJ wn w0.heap.size _ _:=aJ.mod (S:=fun _=>False) hz (aH iE _) id
 have HB:=Lh bP
 have HZ:=Lh iR
 have HL:=Lh (eZ.trans (iE.mono eZ.size))
 have HY:=Lh (lY.below iE)
 have E8:w0.heap.size≠w0.heap.size+1:=by omega
 have hc:=bP.cell
 have hf:=bP.frozen
 have EY:=lC.cell
 clear eZ hz hb lY lC iE bP iR gE
 conv=>arg 2;unfold jD;whnf
 (refine vT 23 ?_;intro K hK)
 rw [←PF]
 clear PF
 (refine cJ [4,5,12] fun f=>?_)
 go_region_held3 (fun w'=>w'.cell? ⟨w.heap.size,0,none⟩=some (aB tg)∧w'.cell? ⟨w.heap.size,1,none⟩=some (.slice (some ⟨g,0,none⟩) d.length cap)∧(convert 77 9 (.slice (some ⟨g,0,none⟩) d.length cap)).run prog w'=.ok (aB d) w')
  (refine ⟨?_,?_,?_⟩<;>first|(exact Jw d _ g 0 cap (by repeat (first|exact HY.out|refine bG.setCell ?_ cB _|refine bG.drew ?_)))|go_keep)
  (fail)
 (revert K;refine vT 27 ?_)
 (refine cJ [4,5] fun f=>?_)
 refine aY (GR _ w0.heap.size 5 [] tg d none 0 0 i5 i6 i7 ?_ ?_ _ (fun w' hm=>⟨⟨none,0,0,rfl,GS _ _⟩,?_⟩) f) (by kernel_rfl)
 ·exact ((((show aJ wn w0.heap.size _ _ from HZ.out).set_ne (a:=⟨w0.heap.size+1,0,none⟩) E8 (.int .i64 5)).set_ne (a:=⟨w0.heap.size+1,2,none⟩) E8 (aB tg)).set_ne (a:=⟨w0.heap.size+1,4,none⟩) E8 (aB d)).drew
 ·exact ((((show aJ wn (w0.heap.size+1) _ _ from HB.out).set 0 (.int .i64 5)).set 2 (aB tg)).set 4 (aB d)).drew
 ·refine aK.below (B:=w0.heap.size) ?_ ?_ hm (fun k hk=>by rw [hk];exact Nat.le_refl _)
  ·refine Below.drew ?_
   repeat (refine Below.setCell ?_ (by simp) _)
   exact HL.out
  ·have:=HL.out.size
   simpa [World.setCell,World.drew] using this
theorem a1e {li co:Nat} (w0 w:World) (i5:Nat) (i6 i7:Int) (eZ:Below w0.heap.size w0 w) (gE:w0.heap.size+2≤w.heap.size) (hz:aJ w w0.heap.size nH 55) (hb:aJ w (w0.heap.size+1) #[.int .i64 0,.string ⟨#[]⟩,.string ⟨#[]⟩,.slice none 0 0,.string ⟨#[]⟩,.int .i64 i5,.int .i64 i6,.int .i64 i7] 55)
  (nm:Bs×Bs) (f:Nat→Value):(jD 3).wp prog (uO (D1 w0 ⟨2,nm.1,nm.2,[],[],i5,li,co⟩ i6 i7)) (fr 104 f [(0,W2 nm),(4,.pointer (some ⟨w0.heap.size,0,none⟩)),(5,.pointer (some ⟨w0.heap.size+1,0,none⟩))]) w:=by
 have t0:=fun a b w=>Ot a b w
 have t1:=fun a b w=>Bf a b w
 have gK:w.heap.size≠w0.heap.size+1:=by omega
 have O8:w0.heap.size+1≠w.heap.size:=by omega
 have iE:Below w.heap.size w (w.alloc (.cells #[aB nm.1,aB nm.2] 106)):=(Below.refl _ w).alloc (Nat.le_refl _) _
 obtain ⟨wn,PF⟩:∃ wn,wn=w.alloc (.cells #[aB nm.1,aB nm.2] 106):=⟨_,rfl⟩
 have lC:aJ wn w.heap.size #[aB nm.1,aB nm.2] 106:=by rw [PF];exact aJ.new w _ _
 rw [←PF] at iE
 have bP:aJ wn (w0.heap.size+1) _ _:=aJ.mod (S:=fun _=>False) hb (aH iE _) id
 have iR:aJ wn w0.heap.size _ _:=aJ.mod (S:=fun _=>False) hz (aH iE _) id
 have HB:=Lh bP
 have HZ:=Lh iR
 have HL:=Lh (eZ.trans (iE.mono eZ.size))
 have E8:w0.heap.size≠w0.heap.size+1:=by omega
 have hc:=bP.cell
 have hf:=bP.frozen
 have EY:=lC.cell
 clear eZ hz hb lC iE bP iR gE
 conv=>arg 2;unfold jD;whnf
 (refine vT 14 ?_;intro K hK)
 rw [←PF]
 clear PF
 (refine cJ [4,5,9] fun f=>?_)
 go_region_held3 (fun w'=>w'.cell? ⟨w.heap.size,0,none⟩=some (aB nm.1)∧w'.cell? ⟨w.heap.size,1,none⟩=some (aB nm.2))
  (go_keep)
  (fail)
 (revert K;refine vT 27 ?_)
 (refine cJ [4,5] fun f=>?_)
 refine aY (GR _ w0.heap.size 2 nm.1 nm.2 [] none 0 0 i5 i6 i7 ?_ ?_ _ (fun w' hm=>⟨⟨none,0,0,rfl,GS _ _⟩,?_⟩) f) (by kernel_rfl)
 ·exact ((((show aJ wn w0.heap.size _ _ from HZ.out).set_ne (a:=⟨w0.heap.size+1,0,none⟩) E8 (.int .i64 2)).set_ne (a:=⟨w0.heap.size+1,1,none⟩) E8 (aB nm.1)).set_ne (a:=⟨w0.heap.size+1,2,none⟩) E8 (aB nm.2)).drew
 ·exact ((((show aJ wn (w0.heap.size+1) _ _ from HB.out).set 0 (.int .i64 2)).set 1 (aB nm.1)).set 2 (aB nm.2)).drew
 ·refine aK.below (B:=w0.heap.size) ?_ ?_ hm (fun k hk=>by rw [hk];exact Nat.le_refl _)
  ·refine Below.drew ?_
   repeat (refine Below.setCell ?_ (by simp) _)
   exact HL.out
  ·have:=HL.out.size
   simpa [World.setCell,World.drew] using this
theorem bX.notRow {x:Cx} {c:DC} {w:World} {v:DV} {rest:Bs} {e:Option EK} {buf:Bs} (h:bX x c w v rest e buf) {g:Nat} {cur:Array Value} (hg:aJ w g cur 99) (h0:¬ x.S0 g):¬ x.S1 v g:=by
 rintro (h1|h1)
 ·exact h0 h1
 ·rcases h.bf with ⟨hv,_⟩|⟨g',cap,arr,hv,hb,_⟩
  ·rw [hv] at h1;exact h1
  ·rw [hv] at h1
   have h2:g=g':=h1
   subst h2
   unfold aJ at hb hg
   rw [hb] at hg
   simp at hg
theorem Jx (x:Cx) (hx:x.All) (c:DC) (w:World) (v:DV) (s:St) (m:Nat) (sb fb:List Nat) (n B:Nat) (tv:Value) (nm:Bs×Bs) (ats:List eI) (h:pR x c w v s m sb fb n B tv (.start nm ats)) (pA:s.next=none) (Q:Exit→Act→World→Prop)
  (hQ:∀ f w' t e,xB x w v c (eM x.o (.start nm ats) s) m sb fb tv t e w'→Q .ret (fr 204 f [(2,t),(3,e)]) w') (f:Nat→Value):(hX 19).wp prog Q (fr 204 f [(0,bS x),(4,tv),(5,.nilIface)]) w:=by
 obtain ⟨sv,rfl,cB,l7⟩:=h.tok
 obtain ⟨g,cap,cur,rfl,hgB,SY,a1f,Zl,gE,kD⟩:∃ g cap cur,sv=.slice (some ⟨g,0,none⟩) ats.length cap∧B≤g∧w.heap[g]?=some (.cells cur 99 (0,0))∧ats.length≤cap∧cap≤maxLen∧cur.size=cap*3∧cur.toList.take (ats.length*3)=aN ats:=by
  rcases l7.2 with h9|h9
  ·exact absurd (h9.2▸h9.1) cB
  ·exact h9
 have q3:=fun a b s w=>Ou a b s w
 obtain ⟨rI,b0,hR⟩:s.ended=false∧∃ b,bX x c w v s.rest none b:=by
  rcases h.nt (by simp) with h1|⟨nm',e,stk',h1,_⟩
  ·exact h1
  ·cases h1
 obtain ⟨wt,Fp⟩:∃ wt,wt=w.alloc (.cells #[aB nm.1,aB nm.2,.slice (some ⟨g,0,none⟩) ats.length cap] 97):=⟨_,rfl⟩
 have eZ:Below w.heap.size w wt:=by rw [Fp];exact (Below.refl _ w).alloc (Nat.le_refl _) _
 have iE:aK (fun _=>False) w wt:=aH eZ _
 have s8:=hR.below hx.toOk eZ
 have rK:∀ k∈m::(sb++fb),k<w.heap.size:=h.own.lt
 have hdB:x.d<w.heap.size:=hR.dec.lt
 have bF:=hx.len
 obtain ⟨k1,k2,k3,k4⟩:FR x.T.length (.start nm ats):=by
  rcases h.le with h1|⟨nm',e,stk',h1,_⟩
  ·exact h1
  ·cases h1
 have U9:c.nextTok=.nilIface:=by
  have h9:=h.nxt
  unfold l6 at h9
  rw [pA] at h9;exact h9
 have MK:=Lh U9
 have SX:=Lh pA
 clear U9 pA
 have E7:aJ w g cur 99:=SY
 have qJ:aJ wt g cur 99:=E7.mod iE id
 have htt:aJ wt w.heap.size #[aB nm.1,aB nm.2,.slice (some ⟨g,0,none⟩) ats.length cap] 97:=by rw [Fp];exact aJ.new w _ _
 have eC:=h.own.mod iE (fun _ _=>id) h.own.s1
 have XB:=Lh E7.lt
 obtain ⟨ZO,hgS⟩:=h.tkd g rfl
 have W8:=Lh hgS
 have Fa:=Lh hR.newS1
 have qY:=Lh (show B≤g∧ats.length≤cap∧cap≤maxLen∧cur.size=cap*3∧cur.toList.take (ats.length*3)=aN ats from ⟨hgB,a1f,Zl,gE,kD⟩)
 have yU:g≠x.d:=fun e=>hgS (e▸Or.inl (Or.inl rfl))
 have a4M:n+s.stk.length+2*s.rest.length+2*uN s.next+2*(1+ats.length)≤2*x.T.length:=h.bnd
 have Ow:=fun Q hQ f c1 e=>Tt x hx.toOk c wt v s8.dec s8.s1lt (Nat.le_trans h.hB (Nat.le_trans h.hBs iE.size)) m sb fb n s.stk s.ns eC h.sok h.nok ats (fun a ha=>(k3 a ha).mono bF) (by omega) (by omega) w.heap.size g cap cur qJ kD ⟨yU,ZO⟩ Q hQ f c1 e
 have Ox:=Lh Ow
 have HQ:=Lh hQ
 have H:=Lh h
 have HX:=Lh hx
 have fB:=Lh s8
 have HT:=Lh htt
 have HG:=Lh qJ
 have tC:=Lh iE
 have Fq:=Lh rK
 have Ug:=Lh hdB
 have HL:=Lh (show nm.1.length≤1000000000∧nm.2.length≤1000000000∧ats.length≤1000000000 by omega)
 clear a4M
 clear Ow hQ h hx hR s8 eZ eC cB l7 SY k1 k2 k4 bF E7 qJ
 conv=>arg 2;unfold hX;whnf
 have B6:=htt.cell
 have M7:=htt.frozen
 clear htt
 (refine vg ?_;(repeat with_reducible intro K hK))
 rw [←Fp]
 clear B6 M7
 (refine cJ [0,5,8,101,102,103] fun f=>?_)
 refine Ox.out _ ?_ f _ (by kernel_rfl)
 intro f c1 w1 sb1 fb1 n1 jV BV iL Aq VL
 have HWK:=Lh (show eM x.o (.start nm ats) s=.ok (.start (dF x.o (f0 ats s.stk s.ns).2 nm true) (ats.map (Tw x.o (f0 ats s.stk s.ns).2)),
   { s with stk:={ kind:=0,space:=nm.1,loc:=nm.2,ok:=false }::(f0 ats s.stk s.ns).1,ns:=(f0 ats s.stk s.ns).2 }) from rfl)
 obtain ⟨stk1,Oy⟩:∃ a,a=(f0 ats s.stk s.ns).1:=⟨_,rfl⟩
 obtain ⟨ns1,Oz⟩:∃ a,a=(f0 ats s.stk s.ns).2:=⟨_,rfl⟩
 rw [←Oy] at iL Aq HWK BV
 rw [←Oz] at VL HWK BV
 have hwz:w.heap.size<wt.heap.size:=by rw [Fp];show _<(w.heap.push _).size;rw [Array.size_push];omega
 have JX:∀ k,(k=x.d∨k∈m::(sb++fb))→k<w.heap.size:=fun k hk=>by
  rcases hk with hk|hk
  ·rw [hk];exact Ug.out
  ·exact Fq.out k hk
 have hgs:g<wt.heap.size:=HG.out.lt
 have Oi:=HT.out.mod jV.mod (fun hh=>Nat.lt_irrefl _ (JX _ hh))
 have RU:=HG.out.mod jV.mod (fun hh=>by
  rcases hh with hh|hh
  ·exact yU hh
  ·exact ZO hh)
 have LN:=Lh (FW x HX.out.toOk c1 w1 v jV.dec (fun k hk=>Nat.lt_of_lt_of_le (fB.out.s1lt k hk) jV.mod.size) (Nat.le_trans (Nat.le_trans H.out.hB (Nat.le_trans H.out.hBs tC.out.size)) jV.mod.size) m sb1 fb1 n1 stk1 ns1 BV nm)
 have B6:=Oi.cell
 have M7:=Oi.frozen
 have HT1:=Lh Oi
 have Uh:=Lh RU
 have iS:=Lh jV
 have E0:=Lh iL
 have a4N:=Lh Aq
 have a4O:=Lh VL
 have HNT:=Lh JX
 clear Oi RU jV BV iL Aq VL Ox JX Fp Oy Oz
 ((repeat revert K);refine vg ?_;(repeat with_reducible intro K hK))
 refine LN.out.mono ?_
 rintro e2 w2 ⟨rfl,c2,sb2,fb2,gS,QC⟩
 have gH:=Lh (iS.out.trans gS)
 have x9:∀ b,b∈m::(sb1++fb1)→b∈m::(sb++fb)∨wt.heap.size≤b:=iS.out.sub
 have Ui:∀ k,(k=x.d∨k∈m::(sb1++fb1))→k≠w.heap.size∧k≠g:=by
  rintro k (hk|hk)
  ·rw [hk];exact ⟨Nat.ne_of_lt Ug.out,fun e=>yU e.symm⟩
  ·rcases x9 k hk with h9|h9
   ·exact ⟨Nat.ne_of_lt (Fq.out k h9),fun e=>ZO (e▸h9)⟩
   ·exact ⟨fun e=>by omega,fun e=>by omega⟩
 have JH:=HT1.out.mod gS.mod (fun hh=>(Ui _ hh).1 rfl)
 have CU:=Uh.out.mod gS.mod (fun hh=>(Ui _ hh).2 rfl)
 have hmN:m<w.heap.size:=Fq.out m List.mem_cons_self
 obtain ⟨sp2,fr2,dp2,Av⟩:=gH.out.cs
 have LH:c2.space=⟨x.o.space.toArray⟩:=by rw [Av];exact H.out.cfg.sp
 have R7:=Lh (uK x c2 w2 v gS.dec m n1 ns1 QC.map QC.ns LH w.heap.size _ _ JH (Nat.ne_of_gt Ug.out) (Nat.ne_of_gt hmN) 0 nm rfl rfl (Nat.le_trans HL.out.1 (by decide)) true)
 have QQ:=Lh QC
 have Fr:=Lh CU
 have DW:=Lh JH
 clear LN B6 M7 gS QC CU JH x9 Ui
 ((repeat revert K);refine vS ?_;(repeat with_reducible intro K hK))
 refine R7.out.mono ?_
 rintro e3 w3 ⟨rfl,cD,l9,Nb⟩
 have Bj:aJ w3 w.heap.size #[aB (dF x.o ns1 nm true).1,aB nm.2,.slice (some ⟨g,0,none⟩) ats.length cap] 97:=l9
 have Uj:g≠w.heap.size:=Nat.ne_of_lt XB.out
 have PG:bO w3 x.d c2 v:=aJ.mod gH.out.dec cD (Nat.ne_of_lt Ug.out)
 have hgm:g≠m:=fun e=>ZO (by rw [e];exact List.mem_cons_self)
 have hg3:=Fr.out.mod cD Uj
 have Xw:nX x w3 c2 v m sb2 fb2 n1 _ ns1:=QQ.out.mod cD (fun b hb he=>by
  rcases gH.out.sub b hb with h9|h9
  ·exact Nat.lt_irrefl _ (he▸Fq.out b h9)
  ·omega) QQ.out.s1
 have HTR:=Lh (fun Q hQ f c1 e=>Jp x HX.out.toOk c2 w3 v PG m n1 ns1 Xw.map Xw.ns LH ats (fun a ha=>(k3 a ha).mono HX.out.len) HL.out.2.2 w.heap.size g cap ((dF x.o ns1 nm true).1,nm.2) cur hg3 kD ⟨yU,hgm,Uj⟩ Bj Q hQ f c1 e)
 have B6:=Bj.cell
 have M7:=Bj.frozen
 have HT3:=Lh Bj
 have fM:=Lh cD
 have Zn:=Lh PG
 have HO3:=Lh Xw
 clear R7 l9 Nb Bj cD PG hg3 Xw
 ((repeat revert K);refine vS ?_;(repeat with_reducible intro K hK))
 (refine cJ [0,5,8,176,177] fun f=>?_)
 refine HTR.out _ ?_ f _ (by kernel_rfl)
 intro f w4 cur4 l5 hg4 a1g Pa
 have ht4:=HT3.out.mod l5 (fun e=>Uj e.symm)
 have a5j:=ht4.cell
 have a5k:=ht4.frozen
 have o6:=Lh l5
 have Uk:=Lh hg4
 have a4P:=Lh a1g
 have a1h:=Lh Pa
 clear ht4 l5 hg4 a1g Pa HTR B6 M7
 ((repeat revert K);refine vg ?_)
 refine Qk [2,3] fun f=>?_
 refine HQ.out f _ _ _ ?_
 rw [HWK.out]
 have a4Q:nm.2=(dF x.o ns1 nm true).2:=(DZ _ _ _ _).symm
 have htv:(Value.iface 97 (.agg #[aB (dF x.o ns1 nm true).1,aB nm.2,.slice (some ⟨g,0,none⟩) ats.length cap]))=stV (dF x.o ns1 nm true) (.slice (some ⟨g,0,none⟩) ats.length cap):=by
  show _=Value.iface _ (.agg #[aB (dF x.o ns1 nm true).1,aB (dF x.o ns1 nm true).2,.slice (some ⟨g,0,none⟩) ats.length cap])
  rw [←a4Q]
 rw [htv]
 obtain ⟨r1,r2,r3,r4,r5⟩:=qY.out
 have hmT:aK (fun b=>(b=x.d∨b∈m::(sb++fb))∨b=w.heap.size∨b=g) wt w4:=by
  refine (gH.out.mod.mono (fun _ _ hk=>Or.inl hk)).trans ((fM.out.mono (fun _ _ hk=>Or.inr (Or.inl hk))).trans (o6.out.mono (fun _ _ hk=>Or.inr (Or.inr hk))) (fun _ _ hk=>hk)) (fun _ _ hk=>hk)
 have Iv:bO w4 x.d c2 v:=aJ.mod Zn.out o6.out (fun e=>yU e.symm)
 have a4R:g∉m::(sb2++fb2):=fun hh=>by
  rcases gH.out.sub g hh with h9|h9
  ·exact ZO h9
  ·omega
 have ho4:=HO3.out.mod o6.out (fun b hb he=>a4R (he▸hb)) HO3.out.s1
 have a4S:bX x c2 w4 v s.rest none b0:=fB.out.own HX.out.toOk Iv hmT (fun k hk=>by
  rcases hk with (hk|hk)|hk|hk
  ·exact Or.inl hk
  ·exact Or.inr ⟨H.out.own.s1 k hk,H.out.own.base k hk⟩
  ·rw [hk];exact Or.inr ⟨Fa.out,Nat.le_trans H.out.hB H.out.hBs⟩
  ·rw [hk];exact Or.inr ⟨W8.out,Nat.le_trans H.out.hB r1⟩)
 have Bk:=gH.out.same
 refine ⟨rfl,c2,v,sb2,fb2,n1,⟨H.out.cfg.same Bk,⟨⟨none,b0,a4S,fun hh=>?_,fun hh=>absurd rfl hh⟩,?_,?_,H.out.rd.nb⟩,ho4,?_,a4O.out,H.out.tcl,?_,l6.none SX.out (by rw [Bk.next];exact MK.out)⟩,⟨B,_,rfl,by simp,?_⟩,?_,fun b hb=>?_,rfl,Bk.next⟩
 ·have h9:s.ended=true:=hh
  rw [rI] at h9;cases h9
 ·rw [Av];exact H.out.rd.nc
 ·rw [Av];exact H.out.rd.tc
 ·intro e he
  rcases List.mem_cons.1 he with rfl|he
  ·have:=HL.out;exact ⟨Or.inl rfl,by simp only;omega,by simp only;omega⟩
  ·exact a4N.out e he
 ·have h8:=E0.out
  have h9:n+s.stk.length+2*s.rest.length+2*uN s.next+2*(1+ats.length)≤2*x.T.length:=H.out.bnd
  simp only [List.length_cons]
  omega
 ·refine ⟨by rw [ME],Or.inr ⟨g,cap,cur4,by simp,r1,Uk.out,by simpa using r2,r3,by rw [a4P.out,r4],by simpa using a1h.out⟩⟩
 ·refine (tC.out.mono (fun _ _ h=>h.elim)).trans hmT (fun i hi hs=>?_)
  rcases hs with (hs|hs)|hs|hs
  ·exact Or.inl hs
  ·exact Or.inr (Or.inl hs)
  ·omega
  ·exact Or.inr (Or.inr hs)
 ·rcases gH.out.sub b hb with h9|h9
  ·exact Or.inl h9
  ·exact Or.inr (by omega)
theorem Jy:(prog.info? 63).map (fun i=>(i.zero,i.size,i.bytes))=some (some (.agg #[.string ⟨#[]⟩,.string ⟨#[]⟩,.string ⟨#[]⟩]),3,48):=by kernel_rfl
theorem QT (w3:World) (base:Nat) (hb:base≤w3.heap.size) (v:Value) (acc:List eI) (hn:acc.length≤1000000000) (h:w3.ownsRow base 63 3 v acc.length (aN acc)) (a:eI) :
  ∃ v' w4,(Builtin.append_ #[53,53] 53 #[v,.slice (some ⟨w3.heap.size,0,none⟩) 1 1]).run prog (w3.alloc (.cells #[aB a.1,aB a.2.1,aB a.2.2] 63))=.ok v' w4 ∧
   w4.ownsRow base 63 3 v' (acc++[a]).length (aN (acc++[a]))∧(w3.alloc (.cells #[aB a.1,aB a.2.1,aB a.2.2] 63)).grownBy w4 v.ownBlock∧(v'.ownBlock=v.ownBlock∨v'.ownBlock=some (w3.heap.size+1)):=by
 obtain ⟨i,hi,hz,h1,h2⟩:=info_parts Jy
 obtain ⟨v',w4,hr,ho,hg,Ta,eC⟩:=run_append_own_at (P:=prog) (w3.alloc (.cells #[aB a.1,aB a.2.1,aB a.2.2] 63)) base 53 53 63 i _ 3 48 underlying53 hi hz h1 h2 rfl (by omega) v acc.length (aN acc) (h.alloc _) ⟨w3.heap.size,0,none⟩ 1 1 [aB a.1,aB a.2.1,aB a.2.2] rfl
  (by
   intro j u hj
   have hb:=aJ.new w3 #[aB a.1,aB a.2.1,aB a.2.2] 63
   rw [show ((⟨w3.heap.size,0,none⟩:Addr).add j)=⟨w3.heap.size,j,none⟩ by cases j<;>simp [Addr.add],hb.cell]
   simpa using hj)
  (by
   intro u hu
   simp only [List.mem_cons,List.not_mem_nil,or_false] at hu
   rcases hu with rfl|rfl|rfl<;>rfl)
  (by unfold maxLen;omega) (by omega) (by simp;omega)
 refine ⟨v',w4,hr,?_,hg,by simpa using eC⟩
 have e1:aN (acc++[a])=aN acc++[aB a.1,aB a.2.1,aB a.2.2]:=by simp [aN]
 rw [e1,List.length_append]
 exact ho
theorem qB {w:World} {base:Nat} {e:TypeId} {size:Nat} {v:Value} {n:Nat} {xs:List Value} (h:w.ownsRow base e size v n xs):∃ sa sl sc,v=.slice sa sl sc:=by
 rcases h.2 with ⟨rfl,_⟩|⟨g,cap,cur,rfl,_⟩
 ·exact ⟨_,_,_,rfl⟩
 ·exact ⟨_,_,_,rfl⟩
structure Jz (w0:World) (nm:Bs×Bs) (i5:Nat) (i6 i7:Int) (g:Nat) (cur:Array Value) (acc:List eI) (sa:Option Addr) (sl sc:Nat) (w:World):Prop where
 below:Below w0.heap.size w0 w
 z:aJ w w0.heap.size nH 55
 t5:aJ w (w0.heap.size+1) #[.int .i64 1,aB nm.1,aB nm.2,.slice sa sl sc,.string ⟨#[]⟩,.int .i64 i5,.int .i64 i6,.int .i64 i7] 55
 src:aJ w g cur 99
 row:w.ownsRow w0.heap.size 63 3 (.slice sa sl sc) acc.length (aN acc)
 rowS:∀ k,(Value.slice sa sl sc).ownBlock=some k→k≠w0.heap.size∧k≠w0.heap.size+1
 sz:w0.heap.size+2≤w.heap.size
def a1i (w0:World) (nm:Bs×Bs) (i5:Nat) (i6 i7:Int) (g cap:Nat) (cur:Array Value) (ats:List eI) (k:Nat) (a:Act) (w:World):Prop:=
 ∃ f i sa sl sc,a=fr 104 f [(4,.pointer (some ⟨w0.heap.size,0,none⟩)),(5,.pointer (some ⟨w0.heap.size+1,0,none⟩)),(38,.slice (some ⟨g,0,none⟩) ats.length cap),(39,.int .i64 ats.length),(40,.int .i64 (i:Nat))] ∧
  Jz w0 nm i5 i6 i7 g cur (ats.take i) sa sl sc w∧k=ats.length-i∧i≤ats.length
theorem Ul (w0 w:World) (nm:Bs×Bs) (i5:Nat) (i6 i7:Int) (g cap:Nat) (cur:Array Value) (ats:List eI) (bF:ats.length≤1000000000) (hg:g<w0.heap.size) (kD:cur.toList.take (ats.length*3)=aN ats) (h:Jz w0 nm i5 i6 i7 g cur [] none 0 0 w) (Q:Exit→Act→World→Prop)
  (hQ:∀ f w' sa sl sc,Jz w0 nm i5 i6 i7 g cur ats sa sl sc w'→Q .normal (fr 104 f [(4,.pointer (some ⟨w0.heap.size,0,none⟩)),(5,.pointer (some ⟨w0.heap.size+1,0,none⟩))]) w') (f:Nat→Value) (c1:Code) (u7:c1=.loop (jD 8)) :
  c1.wp prog (Exit.inBlock 1 Q) (fr 104 f [(4,.pointer (some ⟨w0.heap.size,0,none⟩)),(5,.pointer (some ⟨w0.heap.size+1,0,none⟩)),(38,.slice (some ⟨g,0,none⟩) ats.length cap),(39,.int .i64 ats.length),(40,.int .i64 0)]) w:=by
 subst u7
 have HQ:=Lh hQ
 have cL:=Lh bF
 have JT:=Lh kD
 have XB:=Lh hg
 refine wp_loop_ghost_k (a1i w0 nm i5 i6 i7 g cap cur ats) ats.length ⟨f,0,none,0,0,rfl,by simpa using h,by simp,Nat.zero_le _⟩ ?_
 clear hQ bF kD hg h
 rintro k _ w ⟨f,i,sa,sl,sc,rfl,hs,hk,hi⟩ J K2 hJ cY
 have HJ:=Lh hJ
 have dN:=Lh cY
 have HS:=Lh hs
 have HK:=Lh hk
 clear hJ cY hs hk
 unfold jD
 conv=>arg 2;whnf
 by_cases bB:i<ats.length
 ·have h1:(i:Int)<(ats.length:Int):=by omega
  have h0:(0:Int)≤(i:Int):=by omega
  have qF:IntKind.i64.wrap ((i:Int)+1)=((i+1:Nat):Int):=by rw [IntKind.wrap_i64];have:=cL.out;omega
  obtain ⟨a,ha⟩:∃ a,ats[i]?=some a:=⟨ats[i],by simp [bB]⟩
  obtain ⟨k1,k2,k3⟩:=yD JT.out ha
  have z7:w.cell? ⟨g,i*3,none⟩=some (aB a.1):=(HS.out.src.cell _).trans k1
  have z8:w.cell? ⟨g,i*3+1,none⟩=some (aB a.2.1):=(HS.out.src.cell _).trans k2
  have JU:w.cell? ⟨g,i*3+2,none⟩=some (aB a.2.2):=(HS.out.src.cell _).trans k3
  have uM:ats.take (i+1)=ats.take i++[a]:=by rw [List.take_succ,ha];rfl
  have hti:(ats.take i).length=i:=by simp;omega
  obtain ⟨wa,jY⟩:∃ wa,wa=w.alloc (.cells #[aB a.1,aB a.2.1,aB a.2.2] 99):=⟨_,rfl⟩
  have eZ:Below w.heap.size w wa:=by rw [jY];exact (Below.refl _ w).alloc (Nat.le_refl _) _
  have iE:aK (fun _=>False) w wa:=aH eZ _
  have k8:aJ wa w.heap.size #[aB a.1,aB a.2.1,aB a.2.2] 99:=by rw [jY];exact aJ.new w _ _
  have hsw:w.heap.size<wa.heap.size:=k8.lt
  have ht5:=HS.out.t5.mod iE id
  have OL:=HS.out.z.mod iE id
  obtain ⟨av',w4,gA,eC,xI,rK⟩:=QT wa w0.heap.size (by have:=HS.out.sz;omega) (.slice sa sl sc) (ats.take i) (by have:=cL.out;omega) (aG HS.out.row iE (fun _ _=>id)) a
  obtain ⟨sa',sl',sc',rfl⟩:=qB eC
  have wG:=k8.cell
  have FJ:=k8.frozen
  have Zw:=ht5.cell
  have Zx:=ht5.frozen
  have HG:=Lh xI
  have HO:=Lh eC
  have Fq:=Lh rK
  have tC:=Lh iE
  have HT5:=Lh ht5
  have HZ5:=Lh OL
  have GP:=Lh uM
  have HSW:=Lh hsw
  clear k1 k2 k3 ha xI eC rK iE eZ k8 ht5 OL uM hti hsw
  (repeat ((fail_if_success with_reducible refine yC 10 ?_);(first|(with_reducible first|refine zA fun K hK=>?_|refine zB ?_|refine zC ?_)|((with_reducible first|refine zD rfl fun K hK=>?_|refine zE fun K hK=>?_);go_simp)|(with_reducible first|((repeat ((fail_if_success refine hK _ _ ?_);clear hK K));refine hK _ _ ?_;clear hK K)|refine zt ?_|refine zf ?_|refine zG ?_|refine zR ?_|refine zK ?_|refine zL ?_|refine zN ?_|refine zS ?_)|simp only [Exit.then,Exit.inBlock,Exit.noGoto,↓reduceIte,Nat.reduceEqDiff]|simp only [undef,reduceCtorEq,↓reduceIte])))
  rw [show w.alloc (.cells #[.string ⟨List.toArray a.1⟩,.string ⟨List.toArray a.2.1⟩,.string ⟨List.toArray a.2.2⟩] 99)=wa from jY.symm]
  clear jY z7 z8 JU
  (revert K;refine vB ?_;intro K hK)
  refine gQ rfl (.tmp 45) (.tmp 55) _ _ rfl _ _ _ (by rw [dZ (by decide)];(try simp only [aL,aQ,aS,bD,Nat.reduceEqDiff,↓reduceIte]);(try rfl)) (by rw [dZ (by decide)];(try simp only [aL,aQ,aS,bD,Nat.reduceEqDiff,↓reduceIte]);(try rfl)) gA ?_
  clear gA
  rw [mC (by decide)]
  have l5:aK (fun k=>(Value.slice sa sl sc).ownBlock=some k) wa w4:=(aH ((Below.refl _ wa).alloc (Nat.le_refl _) _) _).trans (S':=fun k=>(Value.slice sa sl sc).ownBlock=some k) ⟨HG.out.os,HG.out.tape,HG.out.output,HG.out.size,fun k hk hn=>HG.out.block k hk (fun he=>hn he.symm)⟩ (fun i _ hi=>hi)
  have wP:=HT5.out.mod l5 (fun he=>(HS.out.rowS _ he).2 rfl)
  have a5l:=wP.cell
  have a5m:=wP.frozen
  have H45:=Lh wP
  have o6:=Lh l5
  clear wP l5 Zw Zx wG FJ
  (revert K;refine vg ?_)
  (refine Kk [4,5,38,39,40] fun f=>?_)
  have Iy:∀ k,(Value.slice sa sl sc).ownBlock=some k→w0.heap.size≤k:=fun k hk=>(aV HS.out.row hk).2
  have fL:aK (fun k=>k=w0.heap.size+1) w4 (w4.setCell ⟨w0.heap.size+1,3,none⟩ (.slice sa' sl' sc')):=(aK.refl (fun k=>k=w0.heap.size+1) w4).setCell (p:=⟨w0.heap.size+1,3,none⟩) (Or.inl rfl) _
  have B1:∀ k,(Value.slice sa' sl' sc').ownBlock=some k→k≠w0.heap.size∧k≠w0.heap.size+1:=fun k hk=>by
   rcases Fq.out with rK|rK
   ·exact HS.out.rowS k (rK▸hk)
   ·rw [rK] at hk
    have yV:wa.heap.size+1=k:=by simpa using hk
    have:=HS.out.sz
    have:=HSW.out
    omega
  have pC:Below w0.heap.size w0 w4:=aK.below (aK.below HS.out.below HS.out.below.size tC.out (fun _ h=>h.elim)) (Nat.le_trans HS.out.below.size tC.out.size) o6.out Iy
  refine dN.out _ _ ⟨ats.length-(i+1),by rw [HK.out];omega,HJ.out _ _ _ ⟨f,i+1,sa',sl',sc',rfl,?_,rfl,bB⟩⟩
  rw [GP.out]
  refine ⟨aK.below pC pC.size fL (fun k hk=>by omega),?_,?_,?_,aG HO.out fL (fun k hk he=>(B1 k hk).2 he),B1,?_⟩
  ·exact (HZ5.out.mod o6.out (fun he=>(HS.out.rowS _ he).1 rfl)).mod fL (fun he=>by omega)
  ·exact H45.out.set 3 (.slice sa' sl' sc')
  ·refine ((HS.out.src.mod tC.out id).mod o6.out (fun he=>?_)).mod fL (fun he=>?_)
   ·have:=Iy _ he;have:=XB.out;omega
   ·have:=XB.out;omega
  ·have:=HS.out.sz
   have:=tC.out.size
   have:=o6.out.size
   have:=fL.size
   omega
 ·have sX:i=ats.length:=by omega
  subst sX
  have h1:¬ ((ats.length:Int)<(ats.length:Int)):=by omega
  (refine vg ?_;intro K hK)
  refine Qk [4,5] fun f=>?_
  have h2:=HS.out
  rw [List.take_length] at h2
  exact HQ.out f w sa sl sc h2
theorem Ka {li co:Nat} (w0 w:World) (i5:Nat) (i6 i7:Int) (eZ:Below w0.heap.size w0 w) (gE:w0.heap.size+2≤w.heap.size) (hz:aJ w w0.heap.size nH 55) (hb:aJ w (w0.heap.size+1) #[.int .i64 0,.string ⟨#[]⟩,.string ⟨#[]⟩,.slice none 0 0,.string ⟨#[]⟩,.int .i64 i5,.int .i64 i6,.int .i64 i7] 55)
  (nm:Bs×Bs) (ats:List eI) (bF:ats.length≤1000000000) (g cap:Nat) (cur:Array Value) (hg:g<w0.heap.size) (SY:aJ w g cur 99) (kD:cur.toList.take (ats.length*3)=aN ats) (f:Nat→Value) :
  (jD 3).wp prog (uO (D1 w0 ⟨1,nm.1,nm.2,ats,[],i5,li,co⟩ i6 i7)) (fr 104 f [(0,stV nm (.slice (some ⟨g,0,none⟩) ats.length cap)),(4,.pointer (some ⟨w0.heap.size,0,none⟩)),(5,.pointer (some ⟨w0.heap.size+1,0,none⟩))]) w:=by
 have t0:=fun a b s w=>Ou a b s w
 have gK:w.heap.size≠w0.heap.size+1:=by omega
 have O8:w0.heap.size+1≠w.heap.size:=by omega
 obtain ⟨wn,PF⟩:∃ wn,wn=w.alloc (.cells #[aB nm.1,aB nm.2,.slice (some ⟨g,0,none⟩) ats.length cap] 97):=⟨_,rfl⟩
 have iE:Below w.heap.size w wn:=by rw [PF];exact (Below.refl _ w).alloc (Nat.le_refl _) _
 have lC:aJ wn w.heap.size #[aB nm.1,aB nm.2,.slice (some ⟨g,0,none⟩) ats.length cap] 97:=by rw [PF];exact aJ.new w _ _
 have bP:aJ wn (w0.heap.size+1) _ _:=aJ.mod (S:=fun _=>False) hb (aH iE _) id
 have iR:aJ wn w0.heap.size _ _:=aJ.mod (S:=fun _=>False) hz (aH iE _) id
 have RU:aJ wn g cur _:=aJ.mod (S:=fun _=>False) SY (aH iE _) id
 have HB:=Lh bP
 have HZ:=Lh iR
 have HG:=Lh RU
 have rJ:=Lh lC
 have HL:=Lh (eZ.trans (iE.mono eZ.size))
 have W4:=Lh (show w0.heap.size+2≤wn.heap.size from Nat.le_trans gE iE.size)
 have cL:=Lh bF
 have JT:=Lh kD
 have E8:w0.heap.size≠w0.heap.size+1:=by omega
 have hc:=bP.cell
 have hf:=bP.frozen
 have EY:=lC.cell
 clear eZ hz hb lC iE bP iR RU SY gE bF kD
 conv=>arg 2;unfold jD;whnf
 (refine vg ?_;(repeat with_reducible intro K hK))
 rw [←PF]
 clear PF
 (refine cJ [4,5,6] fun f=>?_)
 go_region_held3 (fun w'=>w'.cell? ⟨w.heap.size,0,none⟩=some (aB nm.1)∧w'.cell? ⟨w.heap.size,1,none⟩=some (aB nm.2))
  (go_keep)
  (fail)
 obtain ⟨w3,nV⟩:∃ w3,w3=(((wn.setCell ⟨w0.heap.size+1,0,none⟩ (.int .i64 1)).setCell ⟨w0.heap.size+1,1,none⟩ (aB nm.1)).setCell ⟨w0.heap.size+1,2,none⟩ (aB nm.2)).drew:=⟨_,rfl⟩
 rw [show (((wn.setCell ⟨w0.heap.size+1,0,none⟩ (.int .i64 1)).setCell ⟨w0.heap.size+1,1,none⟩ (.string ⟨List.toArray nm.1⟩)).setCell ⟨w0.heap.size+1,2,none⟩ (.string ⟨List.toArray nm.2⟩)).drew=w3 from nV.symm]
 have cD:aK (fun k=>k=w0.heap.size+1) wn w3:=by
  rw [nV]
  exact ((((aK.refl (fun k=>k=w0.heap.size+1) wn).setCell (p:=⟨w0.heap.size+1,0,none⟩) (Or.inl rfl) _).setCell (p:=⟨w0.heap.size+1,1,none⟩) (Or.inl rfl) _).setCell (p:=⟨w0.heap.size+1,2,none⟩) (Or.inl rfl) _).drewN 1
 have ht3:aJ w3 (w0.heap.size+1) #[.int .i64 1,aB nm.1,aB nm.2,.slice none 0 0,.string ⟨#[]⟩,.int .i64 i5,.int .i64 i6,.int .i64 i7] 55:=by
  rw [nV]
  exact ((((show aJ wn (w0.heap.size+1) _ _ from HB.out).set 0 (.int .i64 1)).set 1 (aB nm.1)).set 2 (aB nm.2)).drew
 have Um:=rJ.out.mod cD gK
 have dA:Jz w0 nm i5 i6 i7 g cur [] none 0 0 w3:=⟨aK.below HL.out HL.out.size cD (fun k hk=>by omega),HZ.out.mod cD E8,ht3,HG.out.mod cD (by omega),GS _ _,fun k hk=>(by cases hk),(by have:=W4.out;have:=cD.size;omega)⟩
 have HLP:=Lh (fun Q hQ f c1 e=>Ul w0 w3 nm i5 i6 i7 g cap cur ats cL.out hg JT.out dA Q hQ f c1 e)
 have a4T:=Um.cell
 have a4U:=Um.frozen
 clear Um ht3 dA nV hc hf EY cD
 ((repeat revert K);refine vg ?_;intro K hK)
 (refine cJ [4,5,38,39,40] fun f=>?_)
 refine HLP.out _ ?_ f _ (by kernel_rfl)
 intro f w' sa sl sc hs
 have HS:=Lh hs
 clear hs HLP a4T a4U
 (revert K;refine vT 27 ?_)
 (refine Kk [4,5] fun f=>?_)
 refine aY (GR _ w0.heap.size 1 nm.1 nm.2 [] sa sl sc i5 i6 i7 HS.out.z HS.out.t5 _ (fun w' hm=>⟨⟨sa,sl,sc,rfl,?_⟩,?_⟩) f) (by kernel_rfl)
 ·exact aG HS.out.row hm (fun k hk he=>(HS.out.rowS k hk).1 he)
 ·exact aK.below HS.out.below HS.out.below.size hm (fun k hk=>by rw [hk];exact Nat.le_refl _)
end Go.Proofs.YtdjdjbpnbjdaaaaGreatDoor
