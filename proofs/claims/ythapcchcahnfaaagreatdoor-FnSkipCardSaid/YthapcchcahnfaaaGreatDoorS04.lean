/- Part of the proof that laws.FnSkip returns true for every argument. No conditions. -/
import Derived.Test.YthapcchcahnfaaaGreatDoorS03
set_option linter.all false
set_option maxHeartbeats 8000000
set_option maxRecDepth 100000
namespace Go.Proofs.YthapcchcahnfaaaGreatDoor
open Go Go.RowKit
theorem FL (x:Cx) (U:x.Ok) (w:World) (S:Below x.B x.W0 w) (n:Nat) (s:ByteArray) (hs:s.toList.isEmpty=false) (f:Array Value) (B:aL w x.rd (tZ x s n) 56) (A:aL w x.rb f 5) (Q:f.size=4096)
   (P:s.size ≤ 1000000000) (hn:n ≤ 1000000000) (D:Int) (g:aL w x.br (iP x 0 0 .nilIface D) 235) :
    Calls Tryz.prog 187 #[.pointer (some ⟨x.br,0,none⟩)] w fun e w'=>e=.returned (.tuple #[])∧sN x w s n f D w':=by
  have V:=g.cell;have X:=g.frozen;have d:=Lib.hid U;have R:=Lib.hid S;have H:=Lib.hid B;have G:=Lib.hid A;have F:=Lib.hid g;clear U S B A g;go_enter Tryz.func187,Tryz.ntmps187
  go_wp2;go_quiet (fail);have o:aJ (fun k=>k=x.br) w (w.drewN nq):=(aJ.refl _ w).drewN nq;have b:aL (w.drewN nq) x.br (iP x 0 0 .nilIface D) 235:=F.out;have l:(w.drewN nq).heap.size=w.heap.size:=rfl;obtain ⟨w0,C⟩:∃ w0,w0=w.drewN nq:=⟨_,rfl⟩;rw [← C] at o b l ⊢;clear C V X;have k0:w0.cell? ⟨x.br,0,none⟩=some (.slice (some ⟨x.rb,0,none⟩) 4096 4096):=b.cell 0;have k1:w0.cell? ⟨x.br,1,none⟩=some (.iface 54 (.pointer (some ⟨x.rd,0,none⟩))):=b.cell 1;have k3:w0.cell? ⟨x.br,3,none⟩=some (.int .i64 0):=b.cell 3;have t:=Lib.hid (H.out.mod o (fun h=>d.out.ne5 h.symm));have r:=Lib.hid (G.out.mod o (fun h=>d.out.ne4 h.symm));have v:=Lib.hid (fun k=>BD x d.out (w0.drewN k) (bM (aJ.below R.out R.out.size o (fun i Z=>by subst Z;exact d.out.br)) k) n s hs f t.out r.out Q P hn);have q:=Lib.hid b;have I:=Lib.hid o;have J:=Lib.hid l;clear b o l;go_wp2;refine wp_loop_once ?_;go_wp2;have N:=fun a w=>nZ a w;have T:=fun a w=>qW a w
  go_region_held3 (fun w'=>w'.cell? ⟨x.br,0,none⟩=some (.slice (some ⟨x.rb,0,none⟩) 4096 4096)∧w'.cell? ⟨x.br,1,none⟩=some (.iface 54 (.pointer (some ⟨x.rd,0,none⟩)))∧w'.cell? ⟨x.br,3,none⟩=some (.int .i64 0))
    (first
      | go_keep
      | (go_split_ands
         have O:=((show aL (w0.drewN 1) x.br _ _ from q.out).mod p.mod (by intro h;rcases h with h|h;exact d.out.ne4 h;exact d.out.ne5 h)).cell;exact ⟨O 0,O 1,O 3⟩))
    (first
      | (go_at_call 170;refine (v.out 1).mono ?_;rintro e w1 ⟨m,rfl,p⟩))
  have c:aL w1 x.br (iP x 0 0 .nilIface D) 235:=(show aL (w0.drewN 1) x.br _ _ from q.out).mod p.mod (by intro h;rcases h with h|h;exact d.out.ne4 h;exact d.out.ne5 h);have W:=c.cell;have Y:=c.frozen;have E:=Lib.hid c;have j:=Lib.hid p;have aA:(m:Int) ≤ 4096:=by have:=p.m2;omega
  have aC:¬ ((m:Int) < 0):=by omega
  have a0:(0:Int) < (m:Int):=by have:=p.m1;omega
  clear c p k0 k1 k3;go_wp2;(try simp only [Exit.inBlock,Exit.then]);refine bodyPost_ret (results_none rfl _ _ _) rfl ?_
  have u:aL (w1.setCell ⟨x.br,3,none⟩ (.int .i64 m)) x.br (iP x 0 m .nilIface D) 235:=E.out.set 3 _;have y:x.rb ≠ x.br:=fun h=>d.out.ne4 h.symm;have z:x.rd ≠ x.br:=fun h=>d.out.ne5 h.symm;refine ⟨rfl,m,j.out.m1,j.out.m2,j.out.m3,u,j.out.row.set_ne y _,?_,?_,?_⟩
  · obtain ⟨n',L,M⟩:=j.out.rd
    exact ⟨n',L,M.set_ne z _⟩
  · have L:aJ (fun k=>k=x.br ∨ k=x.rb ∨ k=x.rd) (w0.drewN 1) w1:=j.out.mod.mono (fun i _ h=>by rcases h with h|h <;> simp [h])
    have M:aJ (fun k=>k=x.br ∨ k=x.rb ∨ k=x.rd) w (w0.drewN 1):=(I.out.mono (fun i _ h=>aG h)).drewN 1;exact (M.trans L (fun _ _ h=>h)).setCell (aG (aG rfl)) _
  · have:=j.out.size
    simp [World.setCell];rw [this];exact J.out
theorem JW (x:Cx) (H:x.Ok) (w:World) (F:Below x.B x.W0 w) (n:Nat) (s:ByteArray) (O:s.toList.isEmpty=true) (p:aL w x.rd (tZ x s n) 56)
    (D:Int) (d:aL w x.br (iP x 0 0 .nilIface D) 235) :
    Calls Tryz.prog 187 #[.pointer (some ⟨x.br,0,none⟩)] w fun e w'=>e=.returned (.tuple #[])∧wD x w D w':=by
  have I:=d.cell;have L:=d.frozen;have r:=Lib.hid H;have E:=Lib.hid F;have z:=Lib.hid p;have v:=Lib.hid d;clear H F p d;go_enter Tryz.func187,Tryz.ntmps187
  go_wp2;go_quiet (fail);have o:aJ (fun k=>k=x.br) w (w.drewN nq):=(aJ.refl _ w).drewN nq;have b:aL (w.drewN nq) x.br (iP x 0 0 .nilIface D) 235:=v.out;have l:(w.drewN nq).heap.size=w.heap.size:=rfl;obtain ⟨w0,q⟩:∃ w0,w0=w.drewN nq:=⟨_,rfl⟩;rw [← q] at o b l ⊢;clear q I L;have P:w0.cell? ⟨x.br,0,none⟩=some (.slice (some ⟨x.rb,0,none⟩) 4096 4096):=b.cell 0;have Q:w0.cell? ⟨x.br,1,none⟩=some (.iface 54 (.pointer (some ⟨x.rd,0,none⟩))):=b.cell 1;have R:w0.cell? ⟨x.br,3,none⟩=some (.int .i64 0):=b.cell 3;have m:=Lib.hid (z.out.mod o (fun h=>r.out.ne5 h.symm));have g:w0.cell? ⟨0,0,none⟩=some x.eofV:=by rw [← r.out.eof];exact (aJ.below E.out E.out.size o (fun i N=>by subst N;exact r.out.br)).cell r.out.gB
  have f:=Lib.hid (fun k=>FJ x (w0.drewN k) n s O m.out g);clear g;have j:=Lib.hid b;have A:=Lib.hid o;have B:=Lib.hid l;clear b o l;go_wp2;refine wp_loop_once ?_;go_wp2;have C:=fun a w=>nZ a w;have G:=fun a w=>qW a w;have c:(∃ u t,pJ x=.iface u t):=by unfold pJ;split <;> exact ⟨_,_,rfl⟩
  obtain ⟨u,t,c⟩:=c;have y:=Lib.hid c;rw [c] at f;clear c
  go_region_held3 (fun w'=>w'.cell? ⟨x.br,0,none⟩=some (.slice (some ⟨x.rb,0,none⟩) 4096 4096)∧w'.cell? ⟨x.br,1,none⟩=some (.iface 54 (.pointer (some ⟨x.rd,0,none⟩)))∧w'.cell? ⟨x.br,3,none⟩=some (.int .i64 0))
    (first
      | go_keep
      | (go_split_ands
         refine ⟨?_,?_,?_⟩ <;> assumption))
    (first
      | (go_at_call 170;refine (f.out 1).mono ?_;rintro e w1 ⟨rfl,S,rfl⟩))
  have J:=j.out.cell;have M:=j.out.frozen;clear P Q R;go_wp2;(try simp only [Exit.inBlock,Exit.then]);refine bodyPost_ret (results_none rfl _ _ _) rfl ?_
  refine ⟨rfl,?_,?_,?_⟩
  · rw [y.out]
    exact ((show aL (w0.drewN (1 + S)) x.br _ _ from j.out).set 3 _).set 4 _
  · exact (((A.out).drewN _).setCell (aG rfl) _).setCell (aG rfl) _
  · simp [World.setCell]
    exact B.out
end Go.Proofs.YthapcchcahnfaaaGreatDoor
