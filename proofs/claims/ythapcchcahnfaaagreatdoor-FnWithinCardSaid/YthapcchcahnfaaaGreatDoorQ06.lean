/- Part of the proof that laws.FnWithin returns true for every argument. No conditions. -/
import Derived.Test.YthapcchcahnfaaaGreatDoorQ03
set_option linter.all false
set_option maxHeartbeats 8000000
set_option maxRecDepth 100000
namespace Go.Proofs.YthapcchcahnfaaaGreatDoor
open Go Go.RowKit
theorem FX (x:Cx) (hx:x.Ok) (w:World) (Z:Below x.B x.W0 w) (n:Nat) (s:ByteArray) (hs:s.toList.isEmpty=false) (g:Array Value) (D:aJ w x.rd (uY x s n) 56) (C:aJ w x.rb g 5) (V:g.size=4096)
   (U:s.size ≤ 1000000000) (hn:n ≤ 1000000000) (F:Int) (q:Nat) (S:0 < q) (T:¬ q=4096) (H:q ≤ 4096) (j:aJ w x.br (iH x q q .nilIface F) 235) :
    Calls Tryz.prog 187 #[.pointer (some ⟨x.br,0,none⟩)] w fun e w'=>e=.returned (.tuple #[])∧sP x w s n g F w':=by
  have G:=j.cell;have hf:=j.frozen;have f:=Lib.hid hx;have Y:=Lib.hid Z;have M:=Lib.hid D;have L:=Lib.hid C;have J:=Lib.hid j;clear hx Z D C j;have a4:decide ((0:Int) < (q:Int))=true:=by simpa using S
  have a5:(q:Int) ≤ 4096:=by omega
  have a6:¬ (4096=q):=fun h=>T h.symm;have W:w.cell? ⟨x.br,0,none⟩=some (.slice (some ⟨x.rb,0,none⟩) 4096 4096):=G 0;have k2:w.cell? ⟨x.br,2,none⟩=some (.int .i64 q):=G 2;have X:w.cell? ⟨x.br,3,none⟩=some (.int .i64 q):=G 3;clear G;go_enter Tryz.func187,Tryz.ntmps187
  go_wp2
  go_region_held3 (fun w'=>w'.cell? ⟨x.br,0,none⟩=some (.slice (some ⟨x.rb,0,none⟩) 4096 4096)∧w'.cell? ⟨x.br,2,none⟩=some (.int .i64 q)∧w'.cell? ⟨x.br,3,none⟩=some (.int .i64 q))
    (go_keep)
    (first
      | (refine jY rfl (.tmp 13) (.tmp 26) 81 81 rfl 5 Tryz.underlying81 pR _ _ _ _ _ _ rfl rfl (by simp) ?_))
  go_wp2;go_region
  go_wp2;go_quiet (fail);obtain ⟨w0,d⟩:∃ w0,w0=((w.setCell ⟨x.br,3,none⟩ (.int .i64 0)).setCell ⟨x.br,2,none⟩ (.int .i64 0)).drew.drew.drewN nq:=⟨_,rfl⟩;have v:aK (fun k=>k=x.br) w w0:=by
    rw [d];exact ((((aK.refl (fun k=>k=x.br) w).setCell (p:=⟨x.br,3,none⟩) (aG rfl) _).setCell (p:=⟨x.br,2,none⟩) (aG rfl) _).drew.drew.drewN nq)
  have b:aJ w0 x.br (iH x 0 0 .nilIface F) 235:=by
    rw [d];exact (J.out.set 3 _).set 2 _
  have E:w0.heap.size=w.heap.size:=by rw [d];simp [World.setCell]
  rw [show (((w.setCell ⟨x.br,3,none⟩ (.int .i64 0)).setCell ⟨x.br,2,none⟩ (.int .i64 0)).drew.drew.drewN nq)=w0 from d.symm];clear d hf W k2 X;have W:w0.cell? ⟨x.br,0,none⟩=some (.slice (some ⟨x.rb,0,none⟩) 4096 4096):=b.cell 0;have k1:w0.cell? ⟨x.br,1,none⟩=some (.iface 54 (.pointer (some ⟨x.rd,0,none⟩))):=b.cell 1;have X:w0.cell? ⟨x.br,3,none⟩=some (.int .i64 0):=b.cell 3;have u:=Lib.hid (M.out.mod v (fun h=>f.out.ne5 h.symm));have t:=Lib.hid (L.out.mod v (fun h=>f.out.ne4 h.symm));have z:=Lib.hid (fun k=>BJ x f.out (w0.drewN k) (cL (aK.below Y.out Y.out.size v (fun i hi=>by subst hi;exact f.out.br)) k) n s hs g u.out t.out V U hn);have r:=Lib.hid b;have N:=Lib.hid v;have O:=Lib.hid E;clear b v E;go_wp2;refine wp_loop_once ?_;go_wp2;have R:=fun a w=>oE a w;have aA:=fun a w=>qX a w
  go_region_held3 (fun w'=>w'.cell? ⟨x.br,0,none⟩=some (.slice (some ⟨x.rb,0,none⟩) 4096 4096)∧w'.cell? ⟨x.br,1,none⟩=some (.iface 54 (.pointer (some ⟨x.rd,0,none⟩)))∧w'.cell? ⟨x.br,3,none⟩=some (.int .i64 0))
    (first
      | go_keep
      | (go_split_ands
         have H:=((show aJ (w0.drewN 1) x.br _ _ from r.out).mod o.mod (by intro h;rcases h with h|h;exact f.out.ne4 h;exact f.out.ne5 h)).cell;exact ⟨H 0,H 1,H 3⟩))
    (first
      | (go_at_call 170;refine (z.out 1).mono ?_;rintro e w1 ⟨m,rfl,o⟩))
  have c:aJ w1 x.br (iH x 0 0 .nilIface F) 235:=(show aJ (w0.drewN 1) x.br _ _ from r.out).mod o.mod (by intro h;rcases h with h|h;exact f.out.ne4 h;exact f.out.ne5 h);have aC:=c.cell;have a0:=c.frozen;have I:=Lib.hid c;have l:=Lib.hid o;have a1:(m:Int) ≤ 4096:=by have:=o.m2;omega
  have a2:¬ ((m:Int) < 0):=by omega
  have a3:(0:Int) < (m:Int):=by have:=o.m1;omega
  clear c o W k1 X;go_wp2;(try simp only [Exit.inBlock,Exit.then]);refine bodyPost_ret (results_none rfl _ _ _) rfl ?_
  have y:aJ (w1.setCell ⟨x.br,3,none⟩ (.int .i64 m)) x.br (iH x 0 m .nilIface F) 235:=I.out.set 3 _;have A:x.rb ≠ x.br:=fun h=>f.out.ne4 h.symm;have B:x.rd ≠ x.br:=fun h=>f.out.ne5 h.symm;refine ⟨rfl,m,l.out.m1,l.out.m2,l.out.m3,y,l.out.row.set_ne A _,?_,?_,?_⟩
  · obtain ⟨n',P,Q⟩:=l.out.rd
    exact ⟨n',P,Q.set_ne B _⟩
  · have P:aK (fun k=>k=x.br ∨ k=x.rb ∨ k=x.rd) (w0.drewN 1) w1:=l.out.mod.mono (fun i _ h=>by rcases h with h|h <;> simp [h])
    have Q:aK (fun k=>k=x.br ∨ k=x.rb ∨ k=x.rd) w (w0.drewN 1):=(N.out.mono (fun i _ h=>aG h)).drewN 1;exact (Q.trans P (fun _ _ h=>h)).setCell (aG (aG rfl)) _
  · have:=l.out.size
    simp [World.setCell];rw [this];exact O.out
end Go.Proofs.YthapcchcahnfaaaGreatDoor
