/- Part of the proof that laws.FnStrictIsLoose, laws.FnUnclosed, laws.FnReaderFails, laws.FnWithin, laws.FnSkip returns true for every argument. No conditions. -/
import Derived.Test.YthapcchcahnfaaaGreatDoorP03
set_option linter.all false
set_option maxHeartbeats 8000000
set_option maxRecDepth 100000
namespace Go.Proofs.YthapcchcahnfaaaGreatDoor
open Go Go.RowKit
theorem IE (x:Cx) (U:x.Ok) (w:World) (S:Below x.B x.W0 w) (n:Nat) (s:ByteArray) (hs:s.toList.isEmpty=false) (f:Array Value) (B:aJ w x.rd (vM x s n) 56) (A:aJ w x.rb f 5) (Q:f.size=4096)
   (P:s.size ≤ 1000000000) (hn:n ≤ 1000000000) (D:Int) (g:aJ w x.br (iT x 0 0 .nilIface D) 235) :
    Calls Tryz.prog 187 #[.pointer (some ⟨x.br,0,none⟩)] w fun e w'=>e=.returned (.tuple #[])∧t7 x w s n f D w':=by
  have V:=g.cell;have X:=g.frozen;have d:=Lib.hid U;have R:=Lib.hid S;have H:=Lib.hid B;have G:=Lib.hid A;have F:=Lib.hid g;clear U S B A g;go_enter Tryz.func187,Tryz.ntmps187
  go_wp2;go_quiet (fail);have o:aM (fun k=>k=x.br) w (w.drewN nq):=(aM.refl _ w).drewN nq;have b:aJ (w.drewN nq) x.br (iT x 0 0 .nilIface D) 235:=F.out;have l:(w.drewN nq).heap.size=w.heap.size:=rfl;obtain ⟨w0,C⟩:∃ w0,w0=w.drewN nq:=⟨_,rfl⟩;rw [← C] at o b l ⊢;clear C V X;have k0:w0.cell? ⟨x.br,0,none⟩=some (.slice (some ⟨x.rb,0,none⟩) 4096 4096):=b.cell 0;have k1:w0.cell? ⟨x.br,1,none⟩=some (.iface 54 (.pointer (some ⟨x.rd,0,none⟩))):=b.cell 1;have k3:w0.cell? ⟨x.br,3,none⟩=some (.int .i64 0):=b.cell 3;have t:=Lib.hid (H.out.mod o (fun h=>d.out.ne5 h.symm));have r:=Lib.hid (G.out.mod o (fun h=>d.out.ne4 h.symm));have v:=Lib.hid (fun k=>CZ x d.out (w0.drewN k) (bP (aM.below R.out R.out.size o (fun i Z=>by subst Z;exact d.out.br)) k) n s hs f t.out r.out Q P hn);have q:=Lib.hid b;have I:=Lib.hid o;have J:=Lib.hid l;clear b o l;go_wp2;refine wp_loop_once ?_;go_wp2;have N:=fun a w=>oZ a w;have T:=fun a w=>sE a w
  go_region_held3 (fun w'=>w'.cell? ⟨x.br,0,none⟩=some (.slice (some ⟨x.rb,0,none⟩) 4096 4096)∧w'.cell? ⟨x.br,1,none⟩=some (.iface 54 (.pointer (some ⟨x.rd,0,none⟩)))∧w'.cell? ⟨x.br,3,none⟩=some (.int .i64 0))
    (first
      | go_keep
      | (go_split_ands
         have O:=((show aJ (w0.drewN 1) x.br _ _ from q.out).mod p.mod (by intro h;rcases h with h|h;exact d.out.ne4 h;exact d.out.ne5 h)).cell;exact ⟨O 0,O 1,O 3⟩))
    (first
      | (go_at_call 170;refine (v.out 1).mono ?_;rintro e w1 ⟨m,rfl,p⟩))
  have c:aJ w1 x.br (iT x 0 0 .nilIface D) 235:=(show aJ (w0.drewN 1) x.br _ _ from q.out).mod p.mod (by intro h;rcases h with h|h;exact d.out.ne4 h;exact d.out.ne5 h);have W:=c.cell;have Y:=c.frozen;have E:=Lib.hid c;have j:=Lib.hid p;have aA:(m:Int) ≤ 4096:=by have:=p.m2;omega
  have aC:¬ ((m:Int) < 0):=by omega
  have aL:(0:Int) < (m:Int):=by have:=p.m1;omega
  clear c p k0 k1 k3;go_wp2;(try simp only [Exit.inBlock,Exit.then]);refine bodyPost_ret (results_none rfl _ _ _) rfl ?_
  have u:aJ (w1.setCell ⟨x.br,3,none⟩ (.int .i64 m)) x.br (iT x 0 m .nilIface D) 235:=E.out.set 3 _;have y:x.rb ≠ x.br:=fun h=>d.out.ne4 h.symm;have z:x.rd ≠ x.br:=fun h=>d.out.ne5 h.symm;refine ⟨rfl,m,j.out.m1,j.out.m2,j.out.m3,u,j.out.row.set_ne y _,?_,?_,?_⟩
  · obtain ⟨n',L,M⟩:=j.out.rd
    exact ⟨n',L,M.set_ne z _⟩
  · have L:aM (fun k=>k=x.br ∨ k=x.rb ∨ k=x.rd) (w0.drewN 1) w1:=j.out.mod.mono (fun i _ h=>by rcases h with h|h <;> simp [h])
    have M:aM (fun k=>k=x.br ∨ k=x.rb ∨ k=x.rd) w (w0.drewN 1):=(I.out.mono (fun i _ h=>aH h)).drewN 1;exact (M.trans L (fun _ _ h=>h)).setCell (aH (aH rfl)) _
  · have:=j.out.size
    simp [World.setCell];rw [this];exact J.out
theorem L8 (x:Cx) (M:x.Ok) (w:World) (J:Below x.B x.W0 w) (n:Nat) (s:ByteArray) (R:s.toList.isEmpty=true) (o:aJ w x.rd (vM x s n) 56)
    (H:Int) (f:aJ w x.br (iT x 4096 4096 .nilIface H) 235) :
    Calls Tryz.prog 187 #[.pointer (some ⟨x.br,0,none⟩)] w fun e w'=>e=.returned (.tuple #[])∧x1 x w H w':=by
  have y:=f.cell;have O:=f.frozen;have r:=Lib.hid M;have I:=Lib.hid J;have B:=Lib.hid o;have z:=Lib.hid f;clear M J o f;have F:w.cell? ⟨x.br,0,none⟩=some (.slice (some ⟨x.rb,0,none⟩) 4096 4096):=y 0;have T:w.cell? ⟨x.br,2,none⟩=some (.int .i64 4096):=y 2;have G:w.cell? ⟨x.br,3,none⟩=some (.int .i64 4096):=y 3;clear y;go_enter Tryz.func187,Tryz.ntmps187
  go_wp2
  go_region_held3 (fun w'=>w'.cell? ⟨x.br,0,none⟩=some (.slice (some ⟨x.rb,0,none⟩) 4096 4096)∧w'.cell? ⟨x.br,2,none⟩=some (.int .i64 4096)∧w'.cell? ⟨x.br,3,none⟩=some (.int .i64 4096))
    (go_keep)
    (first
      | (refine kT rfl (.tmp 13) (.tmp 26) 81 81 rfl 5 Tryz.underlying81 qW _ _ _ _ _ _ rfl rfl (by simp) ?_))
  go_wp2;go_region
  go_wp2;go_quiet (fail);obtain ⟨w0,d⟩:∃ w0,w0=((w.setCell ⟨x.br,3,none⟩ (.int .i64 0)).setCell ⟨x.br,2,none⟩ (.int .i64 0)).drew.drew.drewN nq:=⟨_,rfl⟩;have v:aM (fun k=>k=x.br) w w0:=by
    rw [d];exact ((((aM.refl (fun k=>k=x.br) w).setCell (p:=⟨x.br,3,none⟩) (aH rfl) _).setCell (p:=⟨x.br,2,none⟩) (aH rfl) _).drew.drew.drewN nq)
  have b:aJ w0 x.br (iT x 0 0 .nilIface H) 235:=by
    rw [d];exact (z.out.set 3 _).set 2 _
  have q:w0.heap.size=w.heap.size:=by rw [d];simp [World.setCell]
  rw [show (((w.setCell ⟨x.br,3,none⟩ (.int .i64 0)).setCell ⟨x.br,2,none⟩ (.int .i64 0)).drew.drew.drewN nq)=w0 from d.symm];clear d O F T G;have F:w0.cell? ⟨x.br,0,none⟩=some (.slice (some ⟨x.rb,0,none⟩) 4096 4096):=b.cell 0;have S:w0.cell? ⟨x.br,1,none⟩=some (.iface 54 (.pointer (some ⟨x.rd,0,none⟩))):=b.cell 1;have G:w0.cell? ⟨x.br,3,none⟩=some (.int .i64 0):=b.cell 3;have m:=Lib.hid (B.out.mod v (fun h=>r.out.ne5 h.symm));have j:w0.cell? ⟨0,0,none⟩=some x.eofV:=by rw [← r.out.eof];exact (aM.below I.out I.out.size v (fun i Q=>by subst Q;exact r.out.br)).cell r.out.gB
  have g:=Lib.hid (fun k=>IA x (w0.drewN k) n s R m.out j);clear j;have l:=Lib.hid b;have C:=Lib.hid v;have D:=Lib.hid q;clear b v q;go_wp2;refine wp_loop_once ?_;go_wp2;have E:=fun a w=>oZ a w;have L:=fun a w=>sE a w;have c:(∃ u t,qR x=.iface u t):=by unfold qR;split <;> exact ⟨_,_,rfl⟩
  obtain ⟨u,t,c⟩:=c;have A:=Lib.hid c;rw [c] at g;clear c
  go_region_held3 (fun w'=>w'.cell? ⟨x.br,0,none⟩=some (.slice (some ⟨x.rb,0,none⟩) 4096 4096)∧w'.cell? ⟨x.br,1,none⟩=some (.iface 54 (.pointer (some ⟨x.rd,0,none⟩)))∧w'.cell? ⟨x.br,3,none⟩=some (.int .i64 0))
    (first
      | go_keep
      | (go_split_ands
         refine ⟨?_,?_,?_⟩ <;> assumption))
    (first
      | (go_at_call 170;refine (g.out 1).mono ?_;rintro e w1 ⟨rfl,U,rfl⟩))
  have N:=l.out.cell;have P:=l.out.frozen;clear F S G;go_wp2;(try simp only [Exit.inBlock,Exit.then]);refine bodyPost_ret (results_none rfl _ _ _) rfl ?_
  refine ⟨rfl,?_,?_,?_⟩
  · rw [A.out]
    exact ((show aJ (w0.drewN (1 + U)) x.br _ _ from l.out).set 3 _).set 4 _
  · exact (((C.out).drewN _).setCell (aH rfl) _).setCell (aH rfl) _
  · simp [World.setCell]
    exact D.out
end Go.Proofs.YthapcchcahnfaaaGreatDoor
