/- Part of the proof that laws.FnSkip returns true for every argument. No conditions. -/
import Derived.Test.YthapcchcahnfaaaGreatDoorS03
set_option linter.all false
set_option maxHeartbeats 8000000
set_option maxRecDepth 100000
namespace Go.Proofs.YthapcchcahnfaaaGreatDoor
open Go Go.RowKit
theorem JY (x:Cx) (M:x.Ok) (w:World) (J:Below x.B x.W0 w) (n:Nat) (s:ByteArray) (R:s.toList.isEmpty=true) (o:aL w x.rd (tZ x s n) 56)
    (H:Int) (f:aL w x.br (iP x 4096 4096 .nilIface H) 235) :
    Calls Tryz.prog 187 #[.pointer (some ⟨x.br,0,none⟩)] w fun e w'=>e=.returned (.tuple #[])∧wD x w H w':=by
  have y:=f.cell;have O:=f.frozen;have r:=Lib.hid M;have I:=Lib.hid J;have B:=Lib.hid o;have z:=Lib.hid f;clear M J o f;have F:w.cell? ⟨x.br,0,none⟩=some (.slice (some ⟨x.rb,0,none⟩) 4096 4096):=y 0;have T:w.cell? ⟨x.br,2,none⟩=some (.int .i64 4096):=y 2;have G:w.cell? ⟨x.br,3,none⟩=some (.int .i64 4096):=y 3;clear y;go_enter Tryz.func187,Tryz.ntmps187
  go_wp2
  go_region_held3 (fun w'=>w'.cell? ⟨x.br,0,none⟩=some (.slice (some ⟨x.rb,0,none⟩) 4096 4096)∧w'.cell? ⟨x.br,2,none⟩=some (.int .i64 4096)∧w'.cell? ⟨x.br,3,none⟩=some (.int .i64 4096))
    (go_keep)
    (first
      | (refine j9 rfl (.tmp 13) (.tmp 26) 81 81 rfl 5 Tryz.underlying81 pQ _ _ _ _ _ _ rfl rfl (by simp) ?_))
  go_wp2;go_region
  go_wp2;go_quiet (fail);obtain ⟨w0,d⟩:∃ w0,w0=((w.setCell ⟨x.br,3,none⟩ (.int .i64 0)).setCell ⟨x.br,2,none⟩ (.int .i64 0)).drew.drew.drewN nq:=⟨_,rfl⟩;have v:aJ (fun k=>k=x.br) w w0:=by
    rw [d];exact ((((aJ.refl (fun k=>k=x.br) w).setCell (p:=⟨x.br,3,none⟩) (aG rfl) _).setCell (p:=⟨x.br,2,none⟩) (aG rfl) _).drew.drew.drewN nq)
  have b:aL w0 x.br (iP x 0 0 .nilIface H) 235:=by
    rw [d];exact (z.out.set 3 _).set 2 _
  have q:w0.heap.size=w.heap.size:=by rw [d];simp [World.setCell]
  rw [show (((w.setCell ⟨x.br,3,none⟩ (.int .i64 0)).setCell ⟨x.br,2,none⟩ (.int .i64 0)).drew.drew.drewN nq)=w0 from d.symm];clear d O F T G;have F:w0.cell? ⟨x.br,0,none⟩=some (.slice (some ⟨x.rb,0,none⟩) 4096 4096):=b.cell 0;have S:w0.cell? ⟨x.br,1,none⟩=some (.iface 54 (.pointer (some ⟨x.rd,0,none⟩))):=b.cell 1;have G:w0.cell? ⟨x.br,3,none⟩=some (.int .i64 0):=b.cell 3;have m:=Lib.hid (B.out.mod v (fun h=>r.out.ne5 h.symm));have j:w0.cell? ⟨0,0,none⟩=some x.eofV:=by rw [← r.out.eof];exact (aJ.below I.out I.out.size v (fun i Q=>by subst Q;exact r.out.br)).cell r.out.gB
  have g:=Lib.hid (fun k=>FJ x (w0.drewN k) n s R m.out j);clear j;have l:=Lib.hid b;have C:=Lib.hid v;have D:=Lib.hid q;clear b v q;go_wp2;refine wp_loop_once ?_;go_wp2;have E:=fun a w=>nZ a w;have L:=fun a w=>qW a w;have c:(∃ u t,pJ x=.iface u t):=by unfold pJ;split <;> exact ⟨_,_,rfl⟩
  obtain ⟨u,t,c⟩:=c;have A:=Lib.hid c;rw [c] at g;clear c
  go_region_held3 (fun w'=>w'.cell? ⟨x.br,0,none⟩=some (.slice (some ⟨x.rb,0,none⟩) 4096 4096)∧w'.cell? ⟨x.br,1,none⟩=some (.iface 54 (.pointer (some ⟨x.rd,0,none⟩)))∧w'.cell? ⟨x.br,3,none⟩=some (.int .i64 0))
    (first
      | go_keep
      | (go_split_ands
         refine ⟨?_,?_,?_⟩ <;> assumption))
    (first
      | (go_at_call 170;refine (g.out 1).mono ?_;rintro e w1 ⟨rfl,U,rfl⟩))
  have N:=l.out.cell;have P:=l.out.frozen;clear F S G;go_wp2;(try simp only [Exit.inBlock,Exit.then]);refine bodyPost_ret (results_none rfl _ _ _) rfl ?_
  refine ⟨rfl,?_,?_,?_⟩
  · rw [A.out]
    exact ((show aL (w0.drewN (1 + U)) x.br _ _ from l.out).set 3 _).set 4 _
  · exact (((C.out).drewN _).setCell (aG rfl) _).setCell (aG rfl) _
  · simp [World.setCell]
    exact D.out
end Go.Proofs.YthapcchcahnfaaaGreatDoor
