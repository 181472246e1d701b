/- Part of the proof that laws.FnBalanced returns true for every argument (Bio, FsA, FeA, FsQ, FeQ, FsR, FeR, Rb). No condition of its own. -/
import Derived.Test.YtkjnockljapnbaaGreatDoorO04
import Derived.Deep.RegionHeld3
set_option linter.all false
set_option maxHeartbeats 8000000
set_option maxRecDepth 100000
namespace Go.Proofs.YtkjnockljapnbaaGreatDoor
open Go Go.RowKit
@[go_sem] def bioC (x:Cx) (r q:Int) (e:Value) (lb:Int):Array Value:=#[.slice (some ⟨x.rb,0,none⟩) 4096 4096,.iface 50 (.pointer (some ⟨x.rd,0,none⟩)),.int .i64 r,.int .i64 q,e,.int .i64 lb,.int .i64 (-1)]
theorem rd_read (x:Cx) (hx:x.Ok) (w:World) (hb:Below x.B x.W0 w) (n:Nat) (s:ByteArray) (hs:s.toList.isEmpty=false) (arr:Array Value) (hrd:Blk w x.rd (rdC x s n) 52) (hrb:Blk w x.rb arr 5) (hsz:arr.size=4096)
   (hsn:s.size ≤ 1000000000) (hn:n ≤ 1000000000) :
    Calls Tryz.prog 134 #[.pointer (some ⟨x.rd,0,none⟩),.slice (some ⟨x.rb,0,none⟩) 4096 4096] w fun e w'=>∃ m:Nat,e=.returned (.tuple #[.int .i64 m,.nilIface])∧RdPost x w s n arr m w':=by
  rcases Nat.eq_zero_or_pos x.pcN with h0|h0
  · exact rd_whole x w n s hs arr hrd hrb hsz h0 hsn hx.ne6
  · obtain ⟨pb,po,hp,hpb,hc⟩:=hx.pc h0
    have hv:w.cell? ⟨pb,po + n % x.pcN,none⟩=some (.int .i64 (x.pcs.getD (n % x.pcN) 0)):=by
      rw [← hc _ (Nat.mod_lt _ h0)];exact hb.cell hpb
    generalize x.pcs.getD (n % x.pcN) 0=p at hv
    by_cases h1:p ≤ 1
    · exact rd_piece0 x w n s hs arr hrd hrb hsz pb po h0 hp hx.pcN p hv 1 (by omega) hsn hn hx.ne6
    · by_cases h2:p < 4096
      · exact rd_piece0 x w n s hs arr hrd hrb hsz pb po h0 hp hx.pcN p hv p.toNat (by omega) hsn hn hx.ne6
      · exact rd_piece0 x w n s hs arr hrd hrb hsz pb po h0 hp hx.pcN p hv 4096 (by omega) hsn hn hx.ne6
theorem rdMethod (a:Addr) (w:World):(method 394 50 (.pointer (some a)) "Read").run Tryz.prog w=.ok (134,.pointer (some a)) w:=by kernel_rfl
theorem rdEnter (args:Array Value) (w:World):(callFunc 134 args).run Tryz.prog w=.ok (.enter 134 args) w:=enters_of Tryz.func134 (by kernel_rfl) rfl args w
theorem Below_drewN {B:Nat} {a w:World} (h:Below B a w) (n:Nat):Below B a (w.drewN n):=⟨h.os,h.tape,h.output,h.size,h.block⟩
theorem step_copy_zero {P:Program} {ops:Array Oper} {o:Oper} {a:Act} {w:World} {K:Act → World → Prop} {Q:Exit → Act → World → Prop} {E:Prop} (hgd:o.guard=none) (d s:Operand) (dT sT:TypeId)
    (ho:o.op=.call { callee:=.builtin .copy,args:=#[d,s],argTypes:=#[dT,sT] }) (elem:TypeId) (hu:P.underlying dT=some (.slice elem)) (hsz:(P.info? elem).map (·.size)=some 1)
    (dp sp:Option Addr) (dLen dCap sLen sCap:Nat) (hd:a.eval d=.slice dp dLen dCap) (hs:a.eval s=.slice sp sLen sCap) (hn:Nat.min sLen dLen=0)
    (h:K (a.put o.dst (.int .i64 0)) w) :
    if Region.wanted o (yielded ops a.tmps)=true then Oper.wp P o a w K Q else E:=by
  have hw:Region.wanted o (yielded ops a.tmps)=true:=by simp [Region.wanted,hgd]
  rw [if_pos hw]
  have hrun:=run_copy_none (P:=P) w dT sT o.type elem dp sp dLen dCap sLen sCap hu hsz hn
  unfold Oper.wp
  simp only [execOp,ho,resolve,invoke,builtin]
  simp [hd,hs,hrun,Result.andThen]
  exact h
def FillSome (x:Cx) (w:World) (s:ByteArray) (n:Nat) (arr:Array Value) (lb:Int) (w':World):Prop:=
  ∃ m:Nat,1 ≤ m∧m ≤ 4096∧m ≤ s.size∧Blk w' x.br (bioC x 0 m .nilIface lb) 216∧Blk w' x.rb (bytesV (s.data.toList.take m) ++ arr.toList.drop m).toArray 5 ∧
    (∃ n',n' ≤ n + 1∧Blk w' x.rd (rdC x (s.extract m s.size) n') 52)∧Mod (fun k=>k=x.br ∨ k=x.rb ∨ k=x.rd) w w'∧w'.heap.size=w.heap.size
def FillEnd (x:Cx) (w:World) (lb:Int) (w':World):Prop:=
  Blk w' x.br (bioC x 0 0 (endV x) lb) 216∧Mod (fun k=>k=x.br) w w'∧w'.heap.size=w.heap.size
end Go.Proofs.YtkjnockljapnbaaGreatDoor
namespace Go.Proofs.YtkjnockljapnbaaGreatDoor
open Go Go.RowKit
theorem fill_some0 (x:Cx) (hx:x.Ok) (w:World) (hb:Below x.B x.W0 w) (n:Nat) (s:ByteArray) (hs:s.toList.isEmpty=false) (arr:Array Value) (hrd:Blk w x.rd (rdC x s n) 52) (hrb:Blk w x.rb arr 5) (hsz:arr.size=4096)
   (hsn:s.size ≤ 1000000000) (hn:n ≤ 1000000000) (lb:Int) (hbr:Blk w x.br (bioC x 0 0 .nilIface lb) 216) :
    Calls Tryz.prog 151 #[.pointer (some ⟨x.br,0,none⟩)] w fun e w'=>e=.returned (.tuple #[])∧FillSome x w s n arr lb w':=by
  have hc:=hbr.cell
  have hf:=hbr.frozen
  have HX:=Lib.hid hx
  have HB:=Lib.hid hb
  have HRD:=Lib.hid hrd
  have HRB:=Lib.hid hrb
  have HBR:=Lib.hid hbr
  clear hx hb hrd hrb hbr
  go_enter Tryz.func151,Tryz.ntmps151
  go_wp2
  go_quiet (fail)
  have T0:Mod (fun k=>k=x.br) w (w.drewN nq):=(Mod.refl _ w).drewN nq
  have hbr1:Blk (w.drewN nq) x.br (bioC x 0 0 .nilIface lb) 216:=HBR.out
  have hz1:(w.drewN nq).heap.size=w.heap.size:=rfl
  obtain ⟨w0,hw0⟩:∃ w0,w0=w.drewN nq:=⟨_,rfl⟩
  rw [← hw0] at T0 hbr1 hz1 ⊢
  clear hw0 hc hf
  have k0:w0.cell? ⟨x.br,0,none⟩=some (.slice (some ⟨x.rb,0,none⟩) 4096 4096):=hbr1.cell 0
  have k1:w0.cell? ⟨x.br,1,none⟩=some (.iface 50 (.pointer (some ⟨x.rd,0,none⟩))):=hbr1.cell 1
  have k3:w0.cell? ⟨x.br,3,none⟩=some (.int .i64 0):=hbr1.cell 3
  have HRD0:=Lib.hid (HRD.out.mod T0 (fun h=>HX.out.ne5 h.symm))
  have HRB0:=Lib.hid (HRB.out.mod T0 (fun h=>HX.out.ne4 h.symm))
  have hcon:=Lib.hid (fun k=>rd_read x HX.out (w0.drewN k) (Below_drewN (Mod.below HB.out HB.out.size T0 (fun i hi=>by subst hi;exact HX.out.br)) k) n s hs arr HRD0.out HRB0.out hsz hsn hn)
  have HB1:=Lib.hid hbr1
  have HT0:=Lib.hid T0
  have HZ1:=Lib.hid hz1
  clear hbr1 T0 hz1
  go_wp2
  refine wp_loop_once ?_
  go_wp2
  have hmeth:=fun a w=>rdMethod a w
  have hent:=fun a w=>rdEnter a w
  go_region_held3 (fun w'=>w'.cell? ⟨x.br,0,none⟩=some (.slice (some ⟨x.rb,0,none⟩) 4096 4096)∧w'.cell? ⟨x.br,1,none⟩=some (.iface 50 (.pointer (some ⟨x.rd,0,none⟩)))∧w'.cell? ⟨x.br,3,none⟩=some (.int .i64 0))
    (first
      | go_keep
      | (go_split_ands
         have hq:=((show Blk (w0.drewN 1) x.br _ _ from HB1.out).mod hp.mod (by intro h;rcases h with h|h;exact HX.out.ne4 h;exact HX.out.ne5 h)).cell
         exact ⟨hq 0,hq 1,hq 3⟩))
    (first
      | (go_at_call 134;refine (hcon.out 1).mono ?_;rintro e w1 ⟨m,rfl,hp⟩))
  have hbr2:Blk w1 x.br (bioC x 0 0 .nilIface lb) 216:=(show Blk (w0.drewN 1) x.br _ _ from HB1.out).mod hp.mod (by intro h;rcases h with h|h;exact HX.out.ne4 h;exact HX.out.ne5 h)
  have hc2:=hbr2.cell
  have hf2:=hbr2.frozen
  have HB2:=Lib.hid hbr2
  have HP:=Lib.hid hp
  have hm1:(m:Int) ≤ 4096:=by have:=hp.m2;omega
  have hm2:¬ ((m:Int) < 0):=by omega
  have hm3:(0:Int) < (m:Int):=by have:=hp.m1;omega
  clear hbr2 hp k0 k1 k3
  go_wp2
  (try simp only [Exit.inBlock,Exit.then]);refine bodyPost_ret (results_none rfl _ _ _) rfl ?_
  have hbr3:Blk (w1.setCell ⟨x.br,3,none⟩ (.int .i64 m)) x.br (bioC x 0 m .nilIface lb) 216:=HB2.out.set 3 _
  have hne1:x.rb ≠ x.br:=fun h=>HX.out.ne4 h.symm
  have hne2:x.rd ≠ x.br:=fun h=>HX.out.ne5 h.symm
  refine ⟨rfl,m,HP.out.m1,HP.out.m2,HP.out.m3,hbr3,HP.out.row.set_ne hne1 _,?_,?_,?_⟩
  · obtain ⟨n',h1,h2⟩:=HP.out.rd
    exact ⟨n',h1,h2.set_ne hne2 _⟩
  · have h1:Mod (fun k=>k=x.br ∨ k=x.rb ∨ k=x.rd) (w0.drewN 1) w1:=HP.out.mod.mono (fun i _ h=>by rcases h with h|h <;> simp [h])
    have h2:Mod (fun k=>k=x.br ∨ k=x.rb ∨ k=x.rd) w (w0.drewN 1):=(HT0.out.mono (fun i _ h=>Or.inl h)).drewN 1
    exact (h2.trans h1 (fun _ _ h=>h)).setCell (Or.inl (Or.inl rfl)) _
  · have:=HP.out.size
    simp [World.setCell]
    rw [this]
    exact HZ1.out
end Go.Proofs.YtkjnockljapnbaaGreatDoor
namespace Go.Proofs.YtkjnockljapnbaaGreatDoor
open Go Go.RowKit
theorem fill_end0 (x:Cx) (hx:x.Ok) (w:World) (hb:Below x.B x.W0 w) (n:Nat) (s:ByteArray) (hs:s.toList.isEmpty=true) (hrd:Blk w x.rd (rdC x s n) 52)
    (lb:Int) (hbr:Blk w x.br (bioC x 0 0 .nilIface lb) 216) :
    Calls Tryz.prog 151 #[.pointer (some ⟨x.br,0,none⟩)] w fun e w'=>e=.returned (.tuple #[])∧FillEnd x w lb w':=by
  have hc:=hbr.cell
  have hf:=hbr.frozen
  have HX:=Lib.hid hx
  have HB:=Lib.hid hb
  have HRD:=Lib.hid hrd
  have HBR:=Lib.hid hbr
  clear hx hb hrd hbr
  go_enter Tryz.func151,Tryz.ntmps151
  go_wp2
  go_quiet (fail)
  have T0:Mod (fun k=>k=x.br) w (w.drewN nq):=(Mod.refl _ w).drewN nq
  have hbr1:Blk (w.drewN nq) x.br (bioC x 0 0 .nilIface lb) 216:=HBR.out
  have hz1:(w.drewN nq).heap.size=w.heap.size:=rfl
  obtain ⟨w0,hw0⟩:∃ w0,w0=w.drewN nq:=⟨_,rfl⟩
  rw [← hw0] at T0 hbr1 hz1 ⊢
  clear hw0 hc hf
  have k0:w0.cell? ⟨x.br,0,none⟩=some (.slice (some ⟨x.rb,0,none⟩) 4096 4096):=hbr1.cell 0
  have k1:w0.cell? ⟨x.br,1,none⟩=some (.iface 50 (.pointer (some ⟨x.rd,0,none⟩))):=hbr1.cell 1
  have k3:w0.cell? ⟨x.br,3,none⟩=some (.int .i64 0):=hbr1.cell 3
  have HRD0:=Lib.hid (HRD.out.mod T0 (fun h=>HX.out.ne5 h.symm))
  have heof:w0.cell? ⟨0,0,none⟩=some x.eofV:=by rw [← HX.out.eof];exact (Mod.below HB.out HB.out.size T0 (fun i hi=>by subst hi;exact HX.out.br)).cell HX.out.gB
  have hcon:=Lib.hid (fun k=>rd_end x (w0.drewN k) n s hs HRD0.out heof)
  clear heof
  have HB1:=Lib.hid hbr1
  have HT0:=Lib.hid T0
  have HZ1:=Lib.hid hz1
  clear hbr1 T0 hz1
  go_wp2
  refine wp_loop_once ?_
  go_wp2
  have hmeth:=fun a w=>rdMethod a w
  have hent:=fun a w=>rdEnter a w
  have hev:(∃ u t,endV x=.iface u t):=by unfold endV;split <;> exact ⟨_,_,rfl⟩
  obtain ⟨u,t,hev⟩:=hev
  have HEV:=Lib.hid hev
  rw [hev] at hcon
  clear hev
  go_region_held3 (fun w'=>w'.cell? ⟨x.br,0,none⟩=some (.slice (some ⟨x.rb,0,none⟩) 4096 4096)∧w'.cell? ⟨x.br,1,none⟩=some (.iface 50 (.pointer (some ⟨x.rd,0,none⟩)))∧w'.cell? ⟨x.br,3,none⟩=some (.int .i64 0))
    (first
      | go_keep
      | (go_split_ands
         refine ⟨?_,?_,?_⟩ <;> assumption))
    (first
      | (go_at_call 134;refine (hcon.out 1).mono ?_;rintro e w1 ⟨rfl,kk,rfl⟩))
  have hc2:=HB1.out.cell
  have hf2:=HB1.out.frozen
  clear k0 k1 k3
  go_wp2
  (try simp only [Exit.inBlock,Exit.then]);refine bodyPost_ret (results_none rfl _ _ _) rfl ?_
  refine ⟨rfl,?_,?_,?_⟩
  · rw [HEV.out]
    exact ((show Blk (w0.drewN (1 + kk)) x.br _ _ from HB1.out).set 3 _).set 4 _
  · exact (((HT0.out).drewN _).setCell (Or.inl rfl) _).setCell (Or.inl rfl) _
  · simp [World.setCell]
    exact HZ1.out
end Go.Proofs.YtkjnockljapnbaaGreatDoor
namespace Go.Proofs.YtkjnockljapnbaaGreatDoor
open Go Go.RowKit
theorem fill_someq (x:Cx) (hx:x.Ok) (w:World) (hb:Below x.B x.W0 w) (n:Nat) (s:ByteArray) (hs:s.toList.isEmpty=false) (arr:Array Value) (hrd:Blk w x.rd (rdC x s n) 52) (hrb:Blk w x.rb arr 5) (hsz:arr.size=4096)
   (hsn:s.size ≤ 1000000000) (hn:n ≤ 1000000000) (lb:Int) (q:Nat) (hq0:0 < q) (hq4:¬ q=4096) (hq:q ≤ 4096) (hbr:Blk w x.br (bioC x q q .nilIface lb) 216) :
    Calls Tryz.prog 151 #[.pointer (some ⟨x.br,0,none⟩)] w fun e w'=>e=.returned (.tuple #[])∧FillSome x w s n arr lb w':=by
  have hc:=hbr.cell
  have hf:=hbr.frozen
  have HX:=Lib.hid hx
  have HB:=Lib.hid hb
  have HRD:=Lib.hid hrd
  have HRB:=Lib.hid hrb
  have HBR:=Lib.hid hbr
  clear hx hb hrd hrb hbr
  have hq1:decide ((0:Int) < (q:Int))=true:=by simpa using hq0
  have hq2:(q:Int) ≤ 4096:=by omega
  have hq5:¬ (4096=q):=fun h=>hq4 h.symm
  have k0:w.cell? ⟨x.br,0,none⟩=some (.slice (some ⟨x.rb,0,none⟩) 4096 4096):=hc 0
  have k2:w.cell? ⟨x.br,2,none⟩=some (.int .i64 q):=hc 2
  have k3:w.cell? ⟨x.br,3,none⟩=some (.int .i64 q):=hc 3
  clear hc
  go_enter Tryz.func151,Tryz.ntmps151
  go_wp2
  go_region_held3 (fun w'=>w'.cell? ⟨x.br,0,none⟩=some (.slice (some ⟨x.rb,0,none⟩) 4096 4096)∧w'.cell? ⟨x.br,2,none⟩=some (.int .i64 q)∧w'.cell? ⟨x.br,3,none⟩=some (.int .i64 q))
    (go_keep)
    (first
      | (refine step_copy_zero rfl (.tmp 13) (.tmp 26) 74 74 rfl 5 Tryz.underlying74 u8info _ _ _ _ _ _ rfl rfl (by simp) ?_))
  go_wp2
  go_region
  go_wp2
  go_quiet (fail)
  obtain ⟨w0,hw0⟩:∃ w0,w0=((w.setCell ⟨x.br,3,none⟩ (.int .i64 0)).setCell ⟨x.br,2,none⟩ (.int .i64 0)).drew.drew.drewN nq:=⟨_,rfl⟩
  have T0:Mod (fun k=>k=x.br) w w0:=by
    rw [hw0];exact ((((Mod.refl (fun k=>k=x.br) w).setCell (p:=⟨x.br,3,none⟩) (Or.inl rfl) _).setCell (p:=⟨x.br,2,none⟩) (Or.inl rfl) _).drew.drew.drewN nq)
  have hbr1:Blk w0 x.br (bioC x 0 0 .nilIface lb) 216:=by
    rw [hw0];exact (HBR.out.set 3 _).set 2 _
  have hz1:w0.heap.size=w.heap.size:=by rw [hw0];simp [World.setCell]
  rw [show (((w.setCell ⟨x.br,3,none⟩ (.int .i64 0)).setCell ⟨x.br,2,none⟩ (.int .i64 0)).drew.drew.drewN nq)=w0 from hw0.symm]
  clear hw0 hf k0 k2 k3
  have k0:w0.cell? ⟨x.br,0,none⟩=some (.slice (some ⟨x.rb,0,none⟩) 4096 4096):=hbr1.cell 0
  have k1:w0.cell? ⟨x.br,1,none⟩=some (.iface 50 (.pointer (some ⟨x.rd,0,none⟩))):=hbr1.cell 1
  have k3:w0.cell? ⟨x.br,3,none⟩=some (.int .i64 0):=hbr1.cell 3
  have HRD0:=Lib.hid (HRD.out.mod T0 (fun h=>HX.out.ne5 h.symm))
  have HRB0:=Lib.hid (HRB.out.mod T0 (fun h=>HX.out.ne4 h.symm))
  have hcon:=Lib.hid (fun k=>rd_read x HX.out (w0.drewN k) (Below_drewN (Mod.below HB.out HB.out.size T0 (fun i hi=>by subst hi;exact HX.out.br)) k) n s hs arr HRD0.out HRB0.out hsz hsn hn)
  have HB1:=Lib.hid hbr1
  have HT0:=Lib.hid T0
  have HZ1:=Lib.hid hz1
  clear hbr1 T0 hz1
  go_wp2
  refine wp_loop_once ?_
  go_wp2
  have hmeth:=fun a w=>rdMethod a w
  have hent:=fun a w=>rdEnter a w
  go_region_held3 (fun w'=>w'.cell? ⟨x.br,0,none⟩=some (.slice (some ⟨x.rb,0,none⟩) 4096 4096)∧w'.cell? ⟨x.br,1,none⟩=some (.iface 50 (.pointer (some ⟨x.rd,0,none⟩)))∧w'.cell? ⟨x.br,3,none⟩=some (.int .i64 0))
    (first
      | go_keep
      | (go_split_ands
         have hq:=((show Blk (w0.drewN 1) x.br _ _ from HB1.out).mod hp.mod (by intro h;rcases h with h|h;exact HX.out.ne4 h;exact HX.out.ne5 h)).cell
         exact ⟨hq 0,hq 1,hq 3⟩))
    (first
      | (go_at_call 134;refine (hcon.out 1).mono ?_;rintro e w1 ⟨m,rfl,hp⟩))
  have hbr2:Blk w1 x.br (bioC x 0 0 .nilIface lb) 216:=(show Blk (w0.drewN 1) x.br _ _ from HB1.out).mod hp.mod (by intro h;rcases h with h|h;exact HX.out.ne4 h;exact HX.out.ne5 h)
  have hc2:=hbr2.cell
  have hf2:=hbr2.frozen
  have HB2:=Lib.hid hbr2
  have HP:=Lib.hid hp
  have hm1:(m:Int) ≤ 4096:=by have:=hp.m2;omega
  have hm2:¬ ((m:Int) < 0):=by omega
  have hm3:(0:Int) < (m:Int):=by have:=hp.m1;omega
  clear hbr2 hp k0 k1 k3
  go_wp2
  (try simp only [Exit.inBlock,Exit.then]);refine bodyPost_ret (results_none rfl _ _ _) rfl ?_
  have hbr3:Blk (w1.setCell ⟨x.br,3,none⟩ (.int .i64 m)) x.br (bioC x 0 m .nilIface lb) 216:=HB2.out.set 3 _
  have hne1:x.rb ≠ x.br:=fun h=>HX.out.ne4 h.symm
  have hne2:x.rd ≠ x.br:=fun h=>HX.out.ne5 h.symm
  refine ⟨rfl,m,HP.out.m1,HP.out.m2,HP.out.m3,hbr3,HP.out.row.set_ne hne1 _,?_,?_,?_⟩
  · obtain ⟨n',h1,h2⟩:=HP.out.rd
    exact ⟨n',h1,h2.set_ne hne2 _⟩
  · have h1:Mod (fun k=>k=x.br ∨ k=x.rb ∨ k=x.rd) (w0.drewN 1) w1:=HP.out.mod.mono (fun i _ h=>by rcases h with h|h <;> simp [h])
    have h2:Mod (fun k=>k=x.br ∨ k=x.rb ∨ k=x.rd) w (w0.drewN 1):=(HT0.out.mono (fun i _ h=>Or.inl h)).drewN 1
    exact (h2.trans h1 (fun _ _ h=>h)).setCell (Or.inl (Or.inl rfl)) _
  · have:=HP.out.size
    simp [World.setCell]
    rw [this]
    exact HZ1.out
end Go.Proofs.YtkjnockljapnbaaGreatDoor
namespace Go.Proofs.YtkjnockljapnbaaGreatDoor
open Go Go.RowKit
theorem fill_endq (x:Cx) (hx:x.Ok) (w:World) (hb:Below x.B x.W0 w) (n:Nat) (s:ByteArray) (hs:s.toList.isEmpty=true) (hrd:Blk w x.rd (rdC x s n) 52)
    (lb:Int) (q:Nat) (hq0:0 < q) (hq4:¬ q=4096) (hq:q ≤ 4096) (hbr:Blk w x.br (bioC x q q .nilIface lb) 216) :
    Calls Tryz.prog 151 #[.pointer (some ⟨x.br,0,none⟩)] w fun e w'=>e=.returned (.tuple #[])∧FillEnd x w lb w':=by
  have hc:=hbr.cell
  have hf:=hbr.frozen
  have HX:=Lib.hid hx
  have HB:=Lib.hid hb
  have HRD:=Lib.hid hrd
  have HBR:=Lib.hid hbr
  clear hx hb hrd hbr
  have hq1:decide ((0:Int) < (q:Int))=true:=by simpa using hq0
  have hq2:(q:Int) ≤ 4096:=by omega
  have hq5:¬ (4096=q):=fun h=>hq4 h.symm
  have k0:w.cell? ⟨x.br,0,none⟩=some (.slice (some ⟨x.rb,0,none⟩) 4096 4096):=hc 0
  have k2:w.cell? ⟨x.br,2,none⟩=some (.int .i64 q):=hc 2
  have k3:w.cell? ⟨x.br,3,none⟩=some (.int .i64 q):=hc 3
  clear hc
  go_enter Tryz.func151,Tryz.ntmps151
  go_wp2
  go_region_held3 (fun w'=>w'.cell? ⟨x.br,0,none⟩=some (.slice (some ⟨x.rb,0,none⟩) 4096 4096)∧w'.cell? ⟨x.br,2,none⟩=some (.int .i64 q)∧w'.cell? ⟨x.br,3,none⟩=some (.int .i64 q))
    (go_keep)
    (first
      | (refine step_copy_zero rfl (.tmp 13) (.tmp 26) 74 74 rfl 5 Tryz.underlying74 u8info _ _ _ _ _ _ rfl rfl (by simp) ?_))
  go_wp2
  go_region
  go_wp2
  go_quiet (fail)
  obtain ⟨w0,hw0⟩:∃ w0,w0=((w.setCell ⟨x.br,3,none⟩ (.int .i64 0)).setCell ⟨x.br,2,none⟩ (.int .i64 0)).drew.drew.drewN nq:=⟨_,rfl⟩
  have T0:Mod (fun k=>k=x.br) w w0:=by
    rw [hw0];exact ((((Mod.refl (fun k=>k=x.br) w).setCell (p:=⟨x.br,3,none⟩) (Or.inl rfl) _).setCell (p:=⟨x.br,2,none⟩) (Or.inl rfl) _).drew.drew.drewN nq)
  have hbr1:Blk w0 x.br (bioC x 0 0 .nilIface lb) 216:=by
    rw [hw0];exact (HBR.out.set 3 _).set 2 _
  have hz1:w0.heap.size=w.heap.size:=by rw [hw0];simp [World.setCell]
  rw [show (((w.setCell ⟨x.br,3,none⟩ (.int .i64 0)).setCell ⟨x.br,2,none⟩ (.int .i64 0)).drew.drew.drewN nq)=w0 from hw0.symm]
  clear hw0 hf k0 k2 k3
  have k0:w0.cell? ⟨x.br,0,none⟩=some (.slice (some ⟨x.rb,0,none⟩) 4096 4096):=hbr1.cell 0
  have k1:w0.cell? ⟨x.br,1,none⟩=some (.iface 50 (.pointer (some ⟨x.rd,0,none⟩))):=hbr1.cell 1
  have k3:w0.cell? ⟨x.br,3,none⟩=some (.int .i64 0):=hbr1.cell 3
  have HRD0:=Lib.hid (HRD.out.mod T0 (fun h=>HX.out.ne5 h.symm))
  have heof:w0.cell? ⟨0,0,none⟩=some x.eofV:=by rw [← HX.out.eof];exact (Mod.below HB.out HB.out.size T0 (fun i hi=>by subst hi;exact HX.out.br)).cell HX.out.gB
  have hcon:=Lib.hid (fun k=>rd_end x (w0.drewN k) n s hs HRD0.out heof)
  clear heof
  have HB1:=Lib.hid hbr1
  have HT0:=Lib.hid T0
  have HZ1:=Lib.hid hz1
  clear hbr1 T0 hz1
  go_wp2
  refine wp_loop_once ?_
  go_wp2
  have hmeth:=fun a w=>rdMethod a w
  have hent:=fun a w=>rdEnter a w
  have hev:(∃ u t,endV x=.iface u t):=by unfold endV;split <;> exact ⟨_,_,rfl⟩
  obtain ⟨u,t,hev⟩:=hev
  have HEV:=Lib.hid hev
  rw [hev] at hcon
  clear hev
  go_region_held3 (fun w'=>w'.cell? ⟨x.br,0,none⟩=some (.slice (some ⟨x.rb,0,none⟩) 4096 4096)∧w'.cell? ⟨x.br,1,none⟩=some (.iface 50 (.pointer (some ⟨x.rd,0,none⟩)))∧w'.cell? ⟨x.br,3,none⟩=some (.int .i64 0))
    (first
      | go_keep
      | (go_split_ands
         refine ⟨?_,?_,?_⟩ <;> assumption))
    (first
      | (go_at_call 134;refine (hcon.out 1).mono ?_;rintro e w1 ⟨rfl,kk,rfl⟩))
  have hc2:=HB1.out.cell
  have hf2:=HB1.out.frozen
  clear k0 k1 k3
  go_wp2
  (try simp only [Exit.inBlock,Exit.then]);refine bodyPost_ret (results_none rfl _ _ _) rfl ?_
  refine ⟨rfl,?_,?_,?_⟩
  · rw [HEV.out]
    exact ((show Blk (w0.drewN (1 + kk)) x.br _ _ from HB1.out).set 3 _).set 4 _
  · exact (((HT0.out).drewN _).setCell (Or.inl rfl) _).setCell (Or.inl rfl) _
  · simp [World.setCell]
    exact HZ1.out
end Go.Proofs.YtkjnockljapnbaaGreatDoor
namespace Go.Proofs.YtkjnockljapnbaaGreatDoor
open Go Go.RowKit
theorem fill_somer (x:Cx) (hx:x.Ok) (w:World) (hb:Below x.B x.W0 w) (n:Nat) (s:ByteArray) (hs:s.toList.isEmpty=false) (arr:Array Value) (hrd:Blk w x.rd (rdC x s n) 52) (hrb:Blk w x.rb arr 5) (hsz:arr.size=4096)
   (hsn:s.size ≤ 1000000000) (hn:n ≤ 1000000000) (lb:Int) (hbr:Blk w x.br (bioC x 4096 4096 .nilIface lb) 216) :
    Calls Tryz.prog 151 #[.pointer (some ⟨x.br,0,none⟩)] w fun e w'=>e=.returned (.tuple #[])∧FillSome x w s n arr lb w':=by
  have hc:=hbr.cell
  have hf:=hbr.frozen
  have HX:=Lib.hid hx
  have HB:=Lib.hid hb
  have HRD:=Lib.hid hrd
  have HRB:=Lib.hid hrb
  have HBR:=Lib.hid hbr
  clear hx hb hrd hrb hbr
  have k0:w.cell? ⟨x.br,0,none⟩=some (.slice (some ⟨x.rb,0,none⟩) 4096 4096):=hc 0
  have k2:w.cell? ⟨x.br,2,none⟩=some (.int .i64 4096):=hc 2
  have k3:w.cell? ⟨x.br,3,none⟩=some (.int .i64 4096):=hc 3
  clear hc
  go_enter Tryz.func151,Tryz.ntmps151
  go_wp2
  go_region_held3 (fun w'=>w'.cell? ⟨x.br,0,none⟩=some (.slice (some ⟨x.rb,0,none⟩) 4096 4096)∧w'.cell? ⟨x.br,2,none⟩=some (.int .i64 4096)∧w'.cell? ⟨x.br,3,none⟩=some (.int .i64 4096))
    (go_keep)
    (first
      | (refine step_copy_zero rfl (.tmp 13) (.tmp 26) 74 74 rfl 5 Tryz.underlying74 u8info _ _ _ _ _ _ rfl rfl (by simp) ?_))
  go_wp2
  go_region
  go_wp2
  go_quiet (fail)
  obtain ⟨w0,hw0⟩:∃ w0,w0=((w.setCell ⟨x.br,3,none⟩ (.int .i64 0)).setCell ⟨x.br,2,none⟩ (.int .i64 0)).drew.drew.drewN nq:=⟨_,rfl⟩
  have T0:Mod (fun k=>k=x.br) w w0:=by
    rw [hw0];exact ((((Mod.refl (fun k=>k=x.br) w).setCell (p:=⟨x.br,3,none⟩) (Or.inl rfl) _).setCell (p:=⟨x.br,2,none⟩) (Or.inl rfl) _).drew.drew.drewN nq)
  have hbr1:Blk w0 x.br (bioC x 0 0 .nilIface lb) 216:=by
    rw [hw0];exact (HBR.out.set 3 _).set 2 _
  have hz1:w0.heap.size=w.heap.size:=by rw [hw0];simp [World.setCell]
  rw [show (((w.setCell ⟨x.br,3,none⟩ (.int .i64 0)).setCell ⟨x.br,2,none⟩ (.int .i64 0)).drew.drew.drewN nq)=w0 from hw0.symm]
  clear hw0 hf k0 k2 k3
  have k0:w0.cell? ⟨x.br,0,none⟩=some (.slice (some ⟨x.rb,0,none⟩) 4096 4096):=hbr1.cell 0
  have k1:w0.cell? ⟨x.br,1,none⟩=some (.iface 50 (.pointer (some ⟨x.rd,0,none⟩))):=hbr1.cell 1
  have k3:w0.cell? ⟨x.br,3,none⟩=some (.int .i64 0):=hbr1.cell 3
  have HRD0:=Lib.hid (HRD.out.mod T0 (fun h=>HX.out.ne5 h.symm))
  have HRB0:=Lib.hid (HRB.out.mod T0 (fun h=>HX.out.ne4 h.symm))
  have hcon:=Lib.hid (fun k=>rd_read x HX.out (w0.drewN k) (Below_drewN (Mod.below HB.out HB.out.size T0 (fun i hi=>by subst hi;exact HX.out.br)) k) n s hs arr HRD0.out HRB0.out hsz hsn hn)
  have HB1:=Lib.hid hbr1
  have HT0:=Lib.hid T0
  have HZ1:=Lib.hid hz1
  clear hbr1 T0 hz1
  go_wp2
  refine wp_loop_once ?_
  go_wp2
  have hmeth:=fun a w=>rdMethod a w
  have hent:=fun a w=>rdEnter a w
  go_region_held3 (fun w'=>w'.cell? ⟨x.br,0,none⟩=some (.slice (some ⟨x.rb,0,none⟩) 4096 4096)∧w'.cell? ⟨x.br,1,none⟩=some (.iface 50 (.pointer (some ⟨x.rd,0,none⟩)))∧w'.cell? ⟨x.br,3,none⟩=some (.int .i64 0))
    (first
      | go_keep
      | (go_split_ands
         have hq:=((show Blk (w0.drewN 1) x.br _ _ from HB1.out).mod hp.mod (by intro h;rcases h with h|h;exact HX.out.ne4 h;exact HX.out.ne5 h)).cell
         exact ⟨hq 0,hq 1,hq 3⟩))
    (first
      | (go_at_call 134;refine (hcon.out 1).mono ?_;rintro e w1 ⟨m,rfl,hp⟩))
  have hbr2:Blk w1 x.br (bioC x 0 0 .nilIface lb) 216:=(show Blk (w0.drewN 1) x.br _ _ from HB1.out).mod hp.mod (by intro h;rcases h with h|h;exact HX.out.ne4 h;exact HX.out.ne5 h)
  have hc2:=hbr2.cell
  have hf2:=hbr2.frozen
  have HB2:=Lib.hid hbr2
  have HP:=Lib.hid hp
  have hm1:(m:Int) ≤ 4096:=by have:=hp.m2;omega
  have hm2:¬ ((m:Int) < 0):=by omega
  have hm3:(0:Int) < (m:Int):=by have:=hp.m1;omega
  clear hbr2 hp k0 k1 k3
  go_wp2
  (try simp only [Exit.inBlock,Exit.then]);refine bodyPost_ret (results_none rfl _ _ _) rfl ?_
  have hbr3:Blk (w1.setCell ⟨x.br,3,none⟩ (.int .i64 m)) x.br (bioC x 0 m .nilIface lb) 216:=HB2.out.set 3 _
  have hne1:x.rb ≠ x.br:=fun h=>HX.out.ne4 h.symm
  have hne2:x.rd ≠ x.br:=fun h=>HX.out.ne5 h.symm
  refine ⟨rfl,m,HP.out.m1,HP.out.m2,HP.out.m3,hbr3,HP.out.row.set_ne hne1 _,?_,?_,?_⟩
  · obtain ⟨n',h1,h2⟩:=HP.out.rd
    exact ⟨n',h1,h2.set_ne hne2 _⟩
  · have h1:Mod (fun k=>k=x.br ∨ k=x.rb ∨ k=x.rd) (w0.drewN 1) w1:=HP.out.mod.mono (fun i _ h=>by rcases h with h|h <;> simp [h])
    have h2:Mod (fun k=>k=x.br ∨ k=x.rb ∨ k=x.rd) w (w0.drewN 1):=(HT0.out.mono (fun i _ h=>Or.inl h)).drewN 1
    exact (h2.trans h1 (fun _ _ h=>h)).setCell (Or.inl (Or.inl rfl)) _
  · have:=HP.out.size
    simp [World.setCell]
    rw [this]
    exact HZ1.out
end Go.Proofs.YtkjnockljapnbaaGreatDoor
namespace Go.Proofs.YtkjnockljapnbaaGreatDoor
open Go Go.RowKit
theorem fill_endr (x:Cx) (hx:x.Ok) (w:World) (hb:Below x.B x.W0 w) (n:Nat) (s:ByteArray) (hs:s.toList.isEmpty=true) (hrd:Blk w x.rd (rdC x s n) 52)
    (lb:Int) (hbr:Blk w x.br (bioC x 4096 4096 .nilIface lb) 216) :
    Calls Tryz.prog 151 #[.pointer (some ⟨x.br,0,none⟩)] w fun e w'=>e=.returned (.tuple #[])∧FillEnd x w lb w':=by
  have hc:=hbr.cell
  have hf:=hbr.frozen
  have HX:=Lib.hid hx
  have HB:=Lib.hid hb
  have HRD:=Lib.hid hrd
  have HBR:=Lib.hid hbr
  clear hx hb hrd hbr
  have k0:w.cell? ⟨x.br,0,none⟩=some (.slice (some ⟨x.rb,0,none⟩) 4096 4096):=hc 0
  have k2:w.cell? ⟨x.br,2,none⟩=some (.int .i64 4096):=hc 2
  have k3:w.cell? ⟨x.br,3,none⟩=some (.int .i64 4096):=hc 3
  clear hc
  go_enter Tryz.func151,Tryz.ntmps151
  go_wp2
  go_region_held3 (fun w'=>w'.cell? ⟨x.br,0,none⟩=some (.slice (some ⟨x.rb,0,none⟩) 4096 4096)∧w'.cell? ⟨x.br,2,none⟩=some (.int .i64 4096)∧w'.cell? ⟨x.br,3,none⟩=some (.int .i64 4096))
    (go_keep)
    (first
      | (refine step_copy_zero rfl (.tmp 13) (.tmp 26) 74 74 rfl 5 Tryz.underlying74 u8info _ _ _ _ _ _ rfl rfl (by simp) ?_))
  go_wp2
  go_region
  go_wp2
  go_quiet (fail)
  obtain ⟨w0,hw0⟩:∃ w0,w0=((w.setCell ⟨x.br,3,none⟩ (.int .i64 0)).setCell ⟨x.br,2,none⟩ (.int .i64 0)).drew.drew.drewN nq:=⟨_,rfl⟩
  have T0:Mod (fun k=>k=x.br) w w0:=by
    rw [hw0];exact ((((Mod.refl (fun k=>k=x.br) w).setCell (p:=⟨x.br,3,none⟩) (Or.inl rfl) _).setCell (p:=⟨x.br,2,none⟩) (Or.inl rfl) _).drew.drew.drewN nq)
  have hbr1:Blk w0 x.br (bioC x 0 0 .nilIface lb) 216:=by
    rw [hw0];exact (HBR.out.set 3 _).set 2 _
  have hz1:w0.heap.size=w.heap.size:=by rw [hw0];simp [World.setCell]
  rw [show (((w.setCell ⟨x.br,3,none⟩ (.int .i64 0)).setCell ⟨x.br,2,none⟩ (.int .i64 0)).drew.drew.drewN nq)=w0 from hw0.symm]
  clear hw0 hf k0 k2 k3
  have k0:w0.cell? ⟨x.br,0,none⟩=some (.slice (some ⟨x.rb,0,none⟩) 4096 4096):=hbr1.cell 0
  have k1:w0.cell? ⟨x.br,1,none⟩=some (.iface 50 (.pointer (some ⟨x.rd,0,none⟩))):=hbr1.cell 1
  have k3:w0.cell? ⟨x.br,3,none⟩=some (.int .i64 0):=hbr1.cell 3
  have HRD0:=Lib.hid (HRD.out.mod T0 (fun h=>HX.out.ne5 h.symm))
  have heof:w0.cell? ⟨0,0,none⟩=some x.eofV:=by rw [← HX.out.eof];exact (Mod.below HB.out HB.out.size T0 (fun i hi=>by subst hi;exact HX.out.br)).cell HX.out.gB
  have hcon:=Lib.hid (fun k=>rd_end x (w0.drewN k) n s hs HRD0.out heof)
  clear heof
  have HB1:=Lib.hid hbr1
  have HT0:=Lib.hid T0
  have HZ1:=Lib.hid hz1
  clear hbr1 T0 hz1
  go_wp2
  refine wp_loop_once ?_
  go_wp2
  have hmeth:=fun a w=>rdMethod a w
  have hent:=fun a w=>rdEnter a w
  have hev:(∃ u t,endV x=.iface u t):=by unfold endV;split <;> exact ⟨_,_,rfl⟩
  obtain ⟨u,t,hev⟩:=hev
  have HEV:=Lib.hid hev
  rw [hev] at hcon
  clear hev
  go_region_held3 (fun w'=>w'.cell? ⟨x.br,0,none⟩=some (.slice (some ⟨x.rb,0,none⟩) 4096 4096)∧w'.cell? ⟨x.br,1,none⟩=some (.iface 50 (.pointer (some ⟨x.rd,0,none⟩)))∧w'.cell? ⟨x.br,3,none⟩=some (.int .i64 0))
    (first
      | go_keep
      | (go_split_ands
         refine ⟨?_,?_,?_⟩ <;> assumption))
    (first
      | (go_at_call 134;refine (hcon.out 1).mono ?_;rintro e w1 ⟨rfl,kk,rfl⟩))
  have hc2:=HB1.out.cell
  have hf2:=HB1.out.frozen
  clear k0 k1 k3
  go_wp2
  (try simp only [Exit.inBlock,Exit.then]);refine bodyPost_ret (results_none rfl _ _ _) rfl ?_
  refine ⟨rfl,?_,?_,?_⟩
  · rw [HEV.out]
    exact ((show Blk (w0.drewN (1 + kk)) x.br _ _ from HB1.out).set 3 _).set 4 _
  · exact (((HT0.out).drewN _).setCell (Or.inl rfl) _).setCell (Or.inl rfl) _
  · simp [World.setCell]
    exact HZ1.out
end Go.Proofs.YtkjnockljapnbaaGreatDoor
namespace Go.Proofs.YtkjnockljapnbaaGreatDoor
open Go Go.RowKit
def BioIn (x:Cx) (w:World) (un:Bs):Prop:=
  ∃ (r q n:Nat) (lb:Int) (arr:Array Value) (s:ByteArray) (us:Bs),
    Blk w x.br (bioC x r q .nilIface lb) 216∧Blk w x.rb arr 5∧arr.size=4096∧Blk w x.rd (rdC x s n) 52∧r ≤ q∧q ≤ 4096∧us.length=q - r ∧
    (∀ j,j < us.length → arr[r + j]?=some (.int .u8 (us.getD j 0).toNat))∧un=us ++ s.data.toList∧n + s.size ≤ 1000000000
def Cx.Sio (x:Cx) (k:Nat):Prop:=k=x.br ∨ k=x.rb ∨ k=x.rd
theorem BioIn.mod {x:Cx} {w w':World} {un:Bs} {S:Nat → Prop} (h:BioIn x w un) (hm:Mod S w w') (h1:¬ S x.br) (h2:¬ S x.rb) (h3:¬ S x.rd):BioIn x w' un:=by
  obtain ⟨r,q,n,lb,arr,s,us,a,b,c,d,e⟩:=h
  exact ⟨r,q,n,lb,arr,s,us,a.mod hm h1,b.mod hm h2,c,d.mod hm h3,e⟩
theorem rb_hit (x:Cx) (hx:x.Ok) (w:World) (r q n:Nat) (lb:Int) (arr:Array Value) (s:ByteArray) (b:UInt8) (us:Bs)
    (hbr:Blk w x.br (bioC x r q .nilIface lb) 216) (hrb:Blk w x.rb arr 5) (hsz:arr.size=4096) (hrd:Blk w x.rd (rdC x s n) 52)
    (hrq:r < q) (hq:q ≤ 4096) (hl:(b :: us).length=q - r) (hel:∀ j,j < (b :: us).length → arr[r + j]?=some (.int .u8 ((b :: us).getD j 0).toNat)) (hns:n + s.size ≤ 1000000000) :
    Calls Tryz.prog 150 #[.pointer (some ⟨x.br,0,none⟩)] w fun e w'=>e=.returned (.tuple #[.int .u8 b.toNat,.nilIface])∧BioIn x w' (us ++ s.data.toList)∧Mod x.Sio w w'∧w'.heap.size=w.heap.size:=by
  have hc:=hbr.cell
  have hf:=hbr.frozen
  have hb:w.cell? ⟨x.rb,r,none⟩=some (.int .u8 b.toNat):=by rw [hrb.cell];have:=hel 0 (by simp);simpa using this
  have hr1:((r:Int) == (q:Int))=false:=by simp;omega
  have hr2:(r:Int) < 4096:=by omega
  have hne1:¬ x.br=x.rb:=hx.ne4
  have hne2:¬ x.rb=x.br:=fun h=>hx.ne4 h.symm
  have HX:=Lib.hid hx
  have HRD:=Lib.hid hrd
  have HRB:=Lib.hid hrb
  have HBR:=Lib.hid hbr
  have HEL:=Lib.hid hel
  have HL:=Lib.hid hl
  clear hx hrd hrb hbr hel hl
  go_enter Tryz.func150,Tryz.ntmps150
  go_wp2
  refine wp_loop_once ?_
  go_wp2
  go_quiet (fail)
  go_wp2
  go_quiet (fail)
  go_wp2
  go_ret2
  have hbr1:Blk ((((w.setCell ⟨x.br,6,none⟩ (.int .i64 (-1))).setCell ⟨x.br,2,none⟩ (.int .i64 ((r:Int) + 1))).setCell ⟨x.br,5,none⟩ (.int .i64 b.toNat))) x.br (bioC x (r + 1:Nat) q .nilIface b.toNat) 216:=by
    have:=((HBR.out.set 6 (.int .i64 (-1))).set 2 (.int .i64 ((r:Int) + 1))).set 5 (.int .i64 b.toNat)
    rw [show (((r + 1:Nat):Int))=(r:Int) + 1 from by omega]
    exact this
  have hM:Mod x.Sio w (((w.setCell ⟨x.br,6,none⟩ (.int .i64 (-1))).setCell ⟨x.br,2,none⟩ (.int .i64 ((r:Int) + 1))).setCell ⟨x.br,5,none⟩ (.int .i64 b.toNat)):=
    (((Mod.refl x.Sio w).setCell (p:=⟨x.br,6,none⟩) (Or.inl (Or.inl rfl)) _).setCell (p:=⟨x.br,2,none⟩) (Or.inl (Or.inl rfl)) _).setCell (p:=⟨x.br,5,none⟩) (Or.inl (Or.inl rfl)) _
  have hw64:wrap64 (b.toNat:Int)=b.toNat:=by have:=UInt8.toNat_lt b;unfold wrap64;omega
  try simp only [hw64]
  refine ⟨rfl,⟨r + 1,q,n,b.toNat,arr,s,us,hbr1,?_,hsz,?_,by omega,hq,?_,?_,rfl,hns⟩,⟨hM.os,hM.tape,hM.output,hM.size,hM.block⟩,by simp [World.setCell]⟩
  · exact ((HRB.out.set_ne hne2 _).set_ne hne2 _).set_ne hne2 _
  · have h:x.rd ≠ x.br:=fun h=>HX.out.ne5 h.symm
    exact ((HRD.out.set_ne h _).set_ne h _).set_ne h _
  · have:=HL.out
    simp at this
    omega
  · intro j hj
    have:=HEL.out (j + 1) (by simp;omega)
    rw [show r + 1 + j=r + (j + 1) by omega]
    simpa using this
theorem rb_fill (x:Cx) (hx:x.Ok) (w:World) (hb:Below x.B x.W0 w) (q n:Nat) (lb:Int) (arr:Array Value) (s:ByteArray) (hs:s.toList.isEmpty=false)
    (hbr:Blk w x.br (bioC x q q .nilIface lb) 216) (hrb:Blk w x.rb arr 5) (hsz:arr.size=4096) (hrd:Blk w x.rd (rdC x s n) 52)
    (hq:q ≤ 4096) (hns:n + s.size ≤ 1000000000) :
    Calls Tryz.prog 151 #[.pointer (some ⟨x.br,0,none⟩)] w fun e w'=>e=.returned (.tuple #[])∧FillSome x w s n arr lb w':=by
  by_cases h0:q=0
  · subst h0
    exact fill_some0 x hx w hb n s hs arr hrd hrb hsz (by omega) (by omega) lb hbr
  · by_cases h1:q=4096
    · subst h1
      exact fill_somer x hx w hb n s hs arr hrd hrb hsz (by omega) (by omega) lb hbr
    · exact fill_someq x hx w hb n s hs arr hrd hrb hsz (by omega) (by omega) lb q (by omega) h1 hq hbr
theorem rb_fillEnd (x:Cx) (hx:x.Ok) (w:World) (hb:Below x.B x.W0 w) (q n:Nat) (lb:Int) (s:ByteArray) (hs:s.toList.isEmpty=true)
    (hbr:Blk w x.br (bioC x q q .nilIface lb) 216) (hrd:Blk w x.rd (rdC x s n) 52) (hq:q ≤ 4096) :
    Calls Tryz.prog 151 #[.pointer (some ⟨x.br,0,none⟩)] w fun e w'=>e=.returned (.tuple #[])∧FillEnd x w lb w':=by
  by_cases h0:q=0
  · subst h0
    exact fill_end0 x hx w hb n s hs hrd lb hbr
  · by_cases h1:q=4096
    · subst h1
      exact fill_endr x hx w hb n s hs hrd lb hbr
    · exact fill_endq x hx w hb n s hs hrd lb q (by omega) h1 hq hbr
end Go.Proofs.YtkjnockljapnbaaGreatDoor
