/- Part of the proof that laws.FnSkip returns true for every argument. No conditions. -/
import Derived.Test.YthapcchcahnfaaaGreatDoorS03
set_option linter.all false
set_option maxHeartbeats 8000000
set_option maxRecDepth 100000
namespace Go.Proofs.YthapcchcahnfaaaGreatDoor
open Go Go.RowKit
theorem JX (x:Cx) (P:x.Ok) (w:World) (N:Below x.B x.W0 w) (n:Nat) (s:ByteArray) (X:s.toList.isEmpty=true) (o:aL w x.rd (tZ x s n) 56)
    (L:Int) (q:Nat) (G:0 < q) (H:¬ q=4096) (hq:q ≤ 4096) (f:aL w x.br (iP x q q .nilIface L) 235) :
    Calls Tryz.prog 187 #[.pointer (some ⟨x.br,0,none⟩)] w fun e w'=>e=.returned (.tuple #[])∧wD x w L w':=by
  have z:=f.cell;have R:=f.frozen;have v:=Lib.hid P;have M:=Lib.hid N;have C:=Lib.hid o;have A:=Lib.hid f;clear P N o f;have U:decide ((0:Int) < (q:Int))=true:=by simpa using G
  have V:(q:Int) ≤ 4096:=by omega
  have W:¬ (4096=q):=fun h=>H h.symm;have I:w.cell? ⟨x.br,0,none⟩=some (.slice (some ⟨x.rb,0,none⟩) 4096 4096):=z 0;have Z:w.cell? ⟨x.br,2,none⟩=some (.int .i64 q):=z 2;have J:w.cell? ⟨x.br,3,none⟩=some (.int .i64 q):=z 3;clear z;go_enter Tryz.func187,Tryz.ntmps187
  go_wp2
  go_region_held3 (fun w'=>w'.cell? ⟨x.br,0,none⟩=some (.slice (some ⟨x.rb,0,none⟩) 4096 4096)∧w'.cell? ⟨x.br,2,none⟩=some (.int .i64 q)∧w'.cell? ⟨x.br,3,none⟩=some (.int .i64 q))
    (go_keep)
    (first
      | (refine j9 rfl (.tmp 13) (.tmp 26) 81 81 rfl 5 Tryz.underlying81 pQ _ _ _ _ _ _ rfl rfl (by simp) ?_))
  go_wp2;go_region
  go_wp2;go_quiet (fail);obtain ⟨w0,d⟩:∃ w0,w0=((w.setCell ⟨x.br,3,none⟩ (.int .i64 0)).setCell ⟨x.br,2,none⟩ (.int .i64 0)).drew.drew.drewN nq:=⟨_,rfl⟩;have y:aJ (fun k=>k=x.br) w w0:=by
    rw [d];exact ((((aJ.refl (fun k=>k=x.br) w).setCell (p:=⟨x.br,3,none⟩) (aG rfl) _).setCell (p:=⟨x.br,2,none⟩) (aG rfl) _).drew.drew.drewN nq)
  have b:aL w0 x.br (iP x 0 0 .nilIface L) 235:=by
    rw [d];exact (A.out.set 3 _).set 2 _
  have r:w0.heap.size=w.heap.size:=by rw [d];simp [World.setCell]
  rw [show (((w.setCell ⟨x.br,3,none⟩ (.int .i64 0)).setCell ⟨x.br,2,none⟩ (.int .i64 0)).drew.drew.drewN nq)=w0 from d.symm];clear d R I Z J;have I:w0.cell? ⟨x.br,0,none⟩=some (.slice (some ⟨x.rb,0,none⟩) 4096 4096):=b.cell 0;have Y:w0.cell? ⟨x.br,1,none⟩=some (.iface 54 (.pointer (some ⟨x.rd,0,none⟩))):=b.cell 1;have J:w0.cell? ⟨x.br,3,none⟩=some (.int .i64 0):=b.cell 3;have m:=Lib.hid (C.out.mod y (fun h=>v.out.ne5 h.symm));have j:w0.cell? ⟨0,0,none⟩=some x.eofV:=by rw [← v.out.eof];exact (aJ.below M.out M.out.size y (fun i T=>by subst T;exact v.out.br)).cell v.out.gB
  have g:=Lib.hid (fun k=>FJ x (w0.drewN k) n s X m.out j);clear j;have l:=Lib.hid b;have D:=Lib.hid y;have E:=Lib.hid r;clear b y r;go_wp2;refine wp_loop_once ?_;go_wp2;have F:=fun a w=>nZ a w;have O:=fun a w=>qW a w;have c:(∃ u t,pJ x=.iface u t):=by unfold pJ;split <;> exact ⟨_,_,rfl⟩
  obtain ⟨u,t,c⟩:=c;have B:=Lib.hid c;rw [c] at g;clear c
  go_region_held3 (fun w'=>w'.cell? ⟨x.br,0,none⟩=some (.slice (some ⟨x.rb,0,none⟩) 4096 4096)∧w'.cell? ⟨x.br,1,none⟩=some (.iface 54 (.pointer (some ⟨x.rd,0,none⟩)))∧w'.cell? ⟨x.br,3,none⟩=some (.int .i64 0))
    (first
      | go_keep
      | (go_split_ands
         refine ⟨?_,?_,?_⟩ <;> assumption))
    (first
      | (go_at_call 170;refine (g.out 1).mono ?_;rintro e w1 ⟨rfl,kk,rfl⟩))
  have Q:=l.out.cell;have S:=l.out.frozen;clear I Y J;go_wp2;(try simp only [Exit.inBlock,Exit.then]);refine bodyPost_ret (results_none rfl _ _ _) rfl ?_
  refine ⟨rfl,?_,?_,?_⟩
  · rw [B.out]
    exact ((show aL (w0.drewN (1 + kk)) x.br _ _ from l.out).set 3 _).set 4 _
  · exact (((D.out).drewN _).setCell (aG rfl) _).setCell (aG rfl) _
  · simp [World.setCell]
    exact E.out
end Go.Proofs.YthapcchcahnfaaaGreatDoor
