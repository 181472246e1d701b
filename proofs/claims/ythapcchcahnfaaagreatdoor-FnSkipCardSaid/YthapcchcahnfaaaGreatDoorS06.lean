/- Part of the proof that laws.FnSkip returns true for every argument. No conditions. -/
import Derived.Test.YthapcchcahnfaaaGreatDoorS03
set_option linter.all false
set_option maxHeartbeats 8000000
set_option maxRecDepth 100000
namespace Go.Proofs.YthapcchcahnfaaaGreatDoor
open Go Go.RowKit
theorem FM (x:Cx) (Y:x.Ok) (w:World) (W:Below x.B x.W0 w) (n:Nat) (s:ByteArray) (hs:s.toList.isEmpty=false) (g:Array Value) (C:aL w x.rd (tZ x s n) 56) (B:aL w x.rb g 5) (S:g.size=4096)
   (R:s.size ≤ 1000000000) (hn:n ≤ 1000000000) (E:Int) (j:aL w x.br (iP x 4096 4096 .nilIface E) 235) :
    Calls Tryz.prog 187 #[.pointer (some ⟨x.br,0,none⟩)] w fun e w'=>e=.returned (.tuple #[])∧sN x w s n g E w':=by
  have F:=j.cell;have hf:=j.frozen;have f:=Lib.hid Y;have V:=Lib.hid W;have J:=Lib.hid C;have I:=Lib.hid B;have H:=Lib.hid j;clear Y W C B j;have T:w.cell? ⟨x.br,0,none⟩=some (.slice (some ⟨x.rb,0,none⟩) 4096 4096):=F 0;have k2:w.cell? ⟨x.br,2,none⟩=some (.int .i64 4096):=F 2;have U:w.cell? ⟨x.br,3,none⟩=some (.int .i64 4096):=F 3;clear F;go_enter Tryz.func187,Tryz.ntmps187
  go_wp2
  go_region_held3 (fun w'=>w'.cell? ⟨x.br,0,none⟩=some (.slice (some ⟨x.rb,0,none⟩) 4096 4096)∧w'.cell? ⟨x.br,2,none⟩=some (.int .i64 4096)∧w'.cell? ⟨x.br,3,none⟩=some (.int .i64 4096))
    (go_keep)
    (first
      | (refine j9 rfl (.tmp 13) (.tmp 26) 81 81 rfl 5 Tryz.underlying81 pQ _ _ _ _ _ _ rfl rfl (by simp) ?_))
  go_wp2;go_region
  go_wp2;go_quiet (fail);obtain ⟨w0,d⟩:∃ w0,w0=((w.setCell ⟨x.br,3,none⟩ (.int .i64 0)).setCell ⟨x.br,2,none⟩ (.int .i64 0)).drew.drew.drewN nq:=⟨_,rfl⟩;have u:aJ (fun k=>k=x.br) w w0:=by
    rw [d];exact ((((aJ.refl (fun k=>k=x.br) w).setCell (p:=⟨x.br,3,none⟩) (aG rfl) _).setCell (p:=⟨x.br,2,none⟩) (aG rfl) _).drew.drew.drewN nq)
  have b:aL w0 x.br (iP x 0 0 .nilIface E) 235:=by
    rw [d];exact (H.out.set 3 _).set 2 _
  have D:w0.heap.size=w.heap.size:=by rw [d];simp [World.setCell]
  rw [show (((w.setCell ⟨x.br,3,none⟩ (.int .i64 0)).setCell ⟨x.br,2,none⟩ (.int .i64 0)).drew.drew.drewN nq)=w0 from d.symm];clear d hf T k2 U;have T:w0.cell? ⟨x.br,0,none⟩=some (.slice (some ⟨x.rb,0,none⟩) 4096 4096):=b.cell 0;have k1:w0.cell? ⟨x.br,1,none⟩=some (.iface 54 (.pointer (some ⟨x.rd,0,none⟩))):=b.cell 1;have U:w0.cell? ⟨x.br,3,none⟩=some (.int .i64 0):=b.cell 3;have t:=Lib.hid (J.out.mod u (fun h=>f.out.ne5 h.symm));have r:=Lib.hid (I.out.mod u (fun h=>f.out.ne4 h.symm));have y:=Lib.hid (fun k=>BD x f.out (w0.drewN k) (bM (aJ.below V.out V.out.size u (fun i hi=>by subst hi;exact f.out.br)) k) n s hs g t.out r.out S R hn);have q:=Lib.hid b;have L:=Lib.hid u;have M:=Lib.hid D;clear b u D;go_wp2;refine wp_loop_once ?_;go_wp2;have P:=fun a w=>nZ a w;have X:=fun a w=>qW a w
  go_region_held3 (fun w'=>w'.cell? ⟨x.br,0,none⟩=some (.slice (some ⟨x.rb,0,none⟩) 4096 4096)∧w'.cell? ⟨x.br,1,none⟩=some (.iface 54 (.pointer (some ⟨x.rd,0,none⟩)))∧w'.cell? ⟨x.br,3,none⟩=some (.int .i64 0))
    (first
      | go_keep
      | (go_split_ands
         have Q:=((show aL (w0.drewN 1) x.br _ _ from q.out).mod o.mod (by intro h;rcases h with h|h;exact f.out.ne4 h;exact f.out.ne5 h)).cell;exact ⟨Q 0,Q 1,Q 3⟩))
    (first
      | (go_at_call 170;refine (y.out 1).mono ?_;rintro e w1 ⟨m,rfl,o⟩))
  have c:aL w1 x.br (iP x 0 0 .nilIface E) 235:=(show aL (w0.drewN 1) x.br _ _ from q.out).mod o.mod (by intro h;rcases h with h|h;exact f.out.ne4 h;exact f.out.ne5 h);have Z:=c.cell;have aA:=c.frozen;have G:=Lib.hid c;have l:=Lib.hid o;have aC:(m:Int) ≤ 4096:=by have:=o.m2;omega
  have a0:¬ ((m:Int) < 0):=by omega
  have a1:(0:Int) < (m:Int):=by have:=o.m1;omega
  clear c o T k1 U;go_wp2;(try simp only [Exit.inBlock,Exit.then]);refine bodyPost_ret (results_none rfl _ _ _) rfl ?_
  have v:aL (w1.setCell ⟨x.br,3,none⟩ (.int .i64 m)) x.br (iP x 0 m .nilIface E) 235:=G.out.set 3 _;have z:x.rb ≠ x.br:=fun h=>f.out.ne4 h.symm;have A:x.rd ≠ x.br:=fun h=>f.out.ne5 h.symm;refine ⟨rfl,m,l.out.m1,l.out.m2,l.out.m3,v,l.out.row.set_ne z _,?_,?_,?_⟩
  · obtain ⟨n',N,O⟩:=l.out.rd
    exact ⟨n',N,O.set_ne A _⟩
  · have N:aJ (fun k=>k=x.br ∨ k=x.rb ∨ k=x.rd) (w0.drewN 1) w1:=l.out.mod.mono (fun i _ h=>by rcases h with h|h <;> simp [h])
    have O:aJ (fun k=>k=x.br ∨ k=x.rb ∨ k=x.rd) w (w0.drewN 1):=(L.out.mono (fun i _ h=>aG h)).drewN 1;exact (O.trans N (fun _ _ h=>h)).setCell (aG (aG rfl)) _
  · have:=l.out.size
    simp [World.setCell];rw [this];exact M.out
end Go.Proofs.YthapcchcahnfaaaGreatDoor
