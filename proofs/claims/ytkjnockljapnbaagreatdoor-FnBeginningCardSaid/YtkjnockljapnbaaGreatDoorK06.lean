/- Part of the proof that laws.FnBeginning, laws.FnPlaces returns true for every argument (Rd2, Bio, FsA, FeA, FsQ, FeQ, FsR). No condition of its own. -/
import Derived.Test.YtkjnockljapnbaaGreatDoorK04
import Derived.Deep.RegionHeld3
set_option linter.all false
set_option maxHeartbeats 8000000
set_option maxRecDepth 100000
namespace Go.Proofs.YtkjnockljapnbaaGreatDoor
open Go Go.RowKit
@[go_sem] def rdC (x:Cx) (s:ByteArray) (n:Int):Array Value:=#[.string s,.slice x.pcA x.pcN x.pcC,.int .i64 n,.bool x.o.fails]
def endV (x:Cx):Value:=if x.o.fails then ownV else x.eofV
section
variable {P:Program}
def bytesV (l:Bs):List Value:=l.map fun b=>Value.int .u8 b.toNat
theorem run_copy_str (w:World) (dT sT ty elem:TypeId) (g dLen dCap:Nat) (s:ByteArray) (cur:Array Value) (t:TypeId)
    (hu:P.underlying dT=some (.slice elem)) (hs:(P.info? elem).map (·.size)=some 1)
    (hg:w.heap[g]?=some (.cells cur t (0,0))) (hfit:Nat.min s.size dLen ≤ cur.size) :
    (Builtin.copy_ #[dT,sT] ty #[.slice (some ⟨g,0,none⟩) dLen dCap,.string s]).run P w =
      .ok (goInt (Nat.min s.size dLen)) (w.setRow g (bytesV (s.data.toList.take (Nat.min s.size dLen)) ++ cur.toList.drop (Nat.min s.size dLen)).toArray):=by
  have hle:Nat.min s.size dLen ≤ s.size:=Nat.min_le_left _ _
  have hsz:s.data.toList.length=s.size:=rfl
  have hst:=run_storeCells_at P g 0 t ((s.data.toList.take (Nat.min s.size dLen)).map fun b=>Value.int .u8 b.toNat) 0 cur w hg (by
    simp only [List.length_map,List.length_take,hsz];omega) (by intro v hv;simp only [List.mem_map] at hv;obtain ⟨b,_,rfl⟩:=hv;rfl)
  have hl:((s.data.toList.take (Nat.min s.size dLen)).map fun b=>Value.int .u8 b.toNat).length=Nat.min s.size dLen:=by
    simp only [List.length_map,List.length_take,hsz];omega
  rw [hl] at hst
  simp only [Nat.zero_add,List.take_zero,List.nil_append] at hst
  cases hq:P.info? elem with
  | none=>simp [hq] at hs
  | some i=>
    simp only [Builtin.copy_,Builtin.lenOf,Builtin.firstCells,sizeOf,typeInfo]
    simp only [List.getElem?_toArray,List.getElem?_cons_zero,List.getElem?_cons_succ,Sem.run_bind,run_underlying hu,Result.andThen_ok]
    rw [List.map_take] at hst
    unfold bytesV
    rw [List.map_take]
    simp [hq]
    rw [hst]
    rfl
end
theorem step_copy_str {P:Program} {ops:Array Oper} {o:Oper} {a:Act} {w:World} {K:Act → World → Prop} {Q:Exit → Act → World → Prop} {E:Prop} (hgd:o.guard=none) (d s:Operand) (dT sT:TypeId)
    (ho:o.op=.call { callee:=.builtin .copy,args:=#[d,s],argTypes:=#[dT,sT] }) (elem:TypeId) (hu:P.underlying dT=some (.slice elem)) (hsz:(P.info? elem).map (·.size)=some 1)
    (g dLen dCap:Nat) (str:ByteArray) (hd:a.eval d=.slice (some ⟨g,0,none⟩) dLen dCap) (hs:a.eval s=.string str)
    (cur:Array Value) (t:TypeId) (hg:w.heap[g]?=some (.cells cur t (0,0))) (m:Nat) (hm:m=Nat.min str.size dLen) (hfit:m ≤ cur.size)
    (h:∀ w',Hid (w'=w.setRow g (bytesV (str.data.toList.take m) ++ cur.toList.drop m).toArray) → K (a.put o.dst (.int .i64 m)) w') :
    if Region.wanted o (yielded ops a.tmps)=true then Oper.wp P o a w K Q else E:=by
  have hw:Region.wanted o (yielded ops a.tmps)=true:=by simp [Region.wanted,hgd]
  rw [if_pos hw]
  subst hm
  have hrun:=run_copy_str (P:=P) w dT sT o.type elem g dLen dCap str cur t hu hsz hg hfit
  unfold Oper.wp
  simp only [execOp,ho,resolve,invoke,builtin]
  simp [hd,hs,hrun,Result.andThen]
  exact h _ (show _=_ from rfl)
theorem u8info:(Tryz.prog.info? 5).map (·.size)=some 1:=by kernel_rfl
theorem rd_end (x:Cx) (w:World) (n:Int) (s:ByteArray) (hs:s.toList.isEmpty=true) (hrd:Blk w x.rd (rdC x s n) 52)
   (heof:w.cell? ⟨0,0,none⟩=some x.eofV) :
    Calls Tryz.prog 134 #[.pointer (some ⟨x.rd,0,none⟩),.slice (some ⟨x.rb,0,none⟩) 4096 4096] w fun e w'=>e=.returned (.tuple #[.int .i64 0,endV x])∧∃ k,w'=w.drewN k:=by
  have hc:=hrd.cell
  have hf:=hrd.frozen
  clear hrd
  cases hfl:x.o.fails
  · go_enter Tryz.func134,Tryz.ntmps134
    go_wp2
    go_quiet (fail)
    go_wp2
    go_ret2
    exact ⟨by simp [endV,hfl],_,rfl⟩
  · go_enter Tryz.func134,Tryz.ntmps134
    go_wp2
    go_ret2
    exact ⟨by simp [endV,hfl],0,rfl⟩
structure RdPost (x:Cx) (w:World) (s:ByteArray) (n:Nat) (arr:Array Value) (m:Nat) (w':World):Prop where
  m1:1 ≤ m
  m2:m ≤ 4096
  m3:m ≤ s.size
  row:Blk w' x.rb (bytesV (s.data.toList.take m) ++ arr.toList.drop m).toArray 5
  rd:∃ n',n' ≤ n + 1∧Blk w' x.rd (rdC x (s.extract m s.size) n') 52
  mod:Mod (fun k=>k=x.rb ∨ k=x.rd) w w'
  size:w'.heap.size=w.heap.size
theorem rd_whole (x:Cx) (w:World) (n:Nat) (s:ByteArray) (hs:s.toList.isEmpty=false) (arr:Array Value) (hrd:Blk w x.rd (rdC x s n) 52) (hrb:Blk w x.rb arr 5) (hsz:arr.size=4096)
   (hpc:x.pcN=0) (hsn:s.size ≤ 1000000000) (hne:x.rb ≠ x.rd) :
    Calls Tryz.prog 134 #[.pointer (some ⟨x.rd,0,none⟩),.slice (some ⟨x.rb,0,none⟩) 4096 4096] w fun e w'=>∃ m:Nat,e=.returned (.tuple #[.int .i64 m,.nilIface])∧RdPost x w s n arr m w':=by
  have hc:=hrd.cell
  have hf:=hrd.frozen
  have h0:decide ((0:Int) < (x.pcN:Int))=false:=by simp [hpc]
  have h1:0 < s.size:=by
    rcases Nat.eq_zero_or_pos s.size with h|h
    · have:s=ByteArray.empty:=by simpa using h
      subst this
      simp at hs
    · exact h
  obtain ⟨m,hm⟩:∃ m,m=Nat.min s.size 4096:=⟨_,rfl⟩
  have hm1:m ≤ s.size:=by rw [hm];exact Nat.min_le_left _ _
  have hm2:m ≤ 4096:=by rw [hm];exact Nat.min_le_right _ _
  have hm3:1 ≤ m:=by rw [hm];exact Nat.le_min.2 ⟨h1,by omega⟩
  have hM:Hid (m=Nat.min s.size 4096):=hm
  clear hm
  have HRD:=Lib.hid hrd
  have HRB:=Lib.hid hrb
  clear hrd hrb
  go_enter Tryz.func134,Tryz.ntmps134
  go_wp2
  go_region_law (refine step_copy_str rfl (.tmp 55) (.tmp 59) 74 9 rfl 5 Tryz.underlying74 u8info x.rb 4096 4096 s rfl rfl arr 5 HRB.out m hM.out (by omega) ?_;intro w1 hw1)
  have hc1:∀ o,w1.cell? ⟨x.rd,o,none⟩=(rdC x s n)[o]?:=by
    rw [hw1.out];exact (Blk.row_ne (show Blk _ x.rd _ _ from HRD.out) (fun h=>hne h.symm) _).cell
  have hf1:∀ o,w1.frozen? ⟨x.rd,o,none⟩=false:=by
    rw [hw1.out];exact (Blk.row_ne (show Blk _ x.rd _ _ from HRD.out) (fun h=>hne h.symm) _).frozen
  clear hc hf
  go_wp2
  go_ret2
  have hr1:Blk w1 x.rb (bytesV (s.data.toList.take m) ++ arr.toList.drop m).toArray 5:=by
    rw [hw1.out];exact Blk.row (show Blk _ x.rb _ _ from HRB.out) _
  have hd1:Blk w1 x.rd (rdC x s n) 52:=by
    rw [hw1.out];exact Blk.row_ne (show Blk _ x.rd _ _ from HRD.out) (fun h=>hne h.symm) _
  have hmod:Mod (fun k=>k=x.rb ∨ k=x.rd) w w1:=by
    rw [hw1.out];exact Mod.setRow (Mod.refl _ w).drew (Or.inl (Or.inl rfl)) _
  have hz:w1.heap.size=w.heap.size:=by rw [hw1.out];simp [World.setRow]
  exact ⟨m,rfl,hm3,hm2,hm1,hr1.set_ne (by simpa using hne) _,⟨n,by omega,hd1.set 0 _⟩,hmod.setCell (Or.inl (Or.inr rfl)) _,by simp [hz]⟩
theorem rd_piece0 (x:Cx) (w:World) (n:Nat) (s:ByteArray) (hs:s.toList.isEmpty=false) (arr:Array Value) (hrd:Blk w x.rd (rdC x s n) 52) (hrb:Blk w x.rb arr 5) (hsz:arr.size=4096)
   (pb po:Nat) (pc:0 < x.pcN) (hpc:x.pcA=some ⟨pb,po,none⟩) (hpl:x.pcN ≤ 9223372036854775807) (p:Int) (hv:w.cell? ⟨pb,po + n % x.pcN,none⟩=some (.int .i64 p))
   (q:Nat) (hq:(p ≤ 1∧q=1) ∨ (1 < p∧p < 4096∧p=q) ∨ (4096 ≤ p∧q=4096))
   (hsn:s.size ≤ 1000000000) (hn:n ≤ 1000000000) (hne:x.rb ≠ x.rd) :
    Calls Tryz.prog 134 #[.pointer (some ⟨x.rd,0,none⟩),.slice (some ⟨x.rb,0,none⟩) 4096 4096] w fun e w'=>∃ m:Nat,e=.returned (.tuple #[.int .i64 m,.nilIface])∧RdPost x w s n arr m w':=by
  have hc:=hrd.cell
  have hf:=hrd.frozen
  have h0:decide ((0:Int) < (x.pcN:Int))=true:=by simpa using pc
  have h1:0 < s.size:=by
    rcases Nat.eq_zero_or_pos s.size with h|h
    · have:s=ByteArray.empty:=by simpa using h
      subst this
      simp at hs
    · exact h
  have hk:n % x.pcN < x.pcN:=Nat.mod_lt _ pc
  have hq1:1 ≤ q:=by omega
  have hq2:q ≤ 4096:=by omega
  have hq3:(q:Int) ≤ 4096:=by omega
  obtain ⟨m,hm⟩:∃ m,m=Nat.min s.size q:=⟨_,rfl⟩
  have hm1:m ≤ s.size:=by rw [hm];exact Nat.min_le_left _ _
  have hm2:m ≤ q:=by rw [hm];exact Nat.min_le_right _ _
  have hm3:1 ≤ m:=by rw [hm];exact Nat.le_min.2 ⟨h1,by omega⟩
  have hM:Hid (m=Nat.min s.size q):=hm
  clear hm
  have HRD:=Lib.hid hrd
  have HRB:=Lib.hid hrb
  clear hrd hrb
  rcases hq with ⟨hp,rfl⟩|⟨hp,hp',rfl⟩|⟨hp,rfl⟩
  all_goals
    go_enter Tryz.func134,Tryz.ntmps134
    go_wp2
    go_quiet (fail)
    go_wp2
    go_region_law (refine step_copy_str rfl (.tmp 55) (.tmp 59) 74 9 rfl 5 Tryz.underlying74 u8info x.rb _ _ s rfl rfl arr 5 (Blk.set_ne (show Blk _ x.rb _ _ from HRB.out) (by simpa using hne) _) m hM.out (by omega) ?_;intro w1 hw1)
    have hd0:Blk ((w.drewN nq).setCell ⟨x.rd,2,none⟩ (.int .i64 ((n:Int) + 1))) x.rd (rdC x s ((n:Int) + 1)) 52:=(show Blk (w.drewN nq) x.rd _ _ from HRD.out).set 2 _
    have hd1:Blk w1 x.rd (rdC x s ((n:Int) + 1)) 52:=by
      rw [hw1.out];exact Blk.row_ne (show Blk _ x.rd _ _ from hd0) (fun h=>hne h.symm) _
    have hc1:=hd1.cell
    have hf1:=hd1.frozen
    clear hc hf
    have HD1:=Lib.hid hd1
    clear hd1 hd0
    go_wp2
    go_ret2
    have hr1:Blk w1 x.rb (bytesV (s.data.toList.take m) ++ arr.toList.drop m).toArray 5:=by
      rw [hw1.out];exact Blk.row (Blk.set_ne (show Blk _ x.rb _ _ from HRB.out) (by simpa using hne) _) _
    have hmod:Mod (fun k=>k=x.rb ∨ k=x.rd) w w1:=by
      rw [hw1.out];exact Mod.setRow ((Mod.refl _ w).drewN nq |>.setCell (Or.inl (Or.inr rfl)) _).drew (Or.inl (Or.inl rfl)) _
    have hz:w1.heap.size=w.heap.size:=by rw [hw1.out];simp [World.setRow]
    exact ⟨m,rfl,hm3,by omega,hm1,hr1.set_ne (by simpa using hne) _,⟨n + 1,by omega,HD1.out.set 0 _⟩,hmod.setCell (Or.inl (Or.inr rfl)) _,by simp [hz]⟩
end Go.Proofs.YtkjnockljapnbaaGreatDoor
namespace Go.Proofs.YtkjnockljapnbaaGreatDoor
open Go Go.RowKit
@[go_sem] def bioC (x:Cx) (r q:Int) (e:Value) (lb:Int):Array Value:=#[.slice (some ⟨x.rb,0,none⟩) 4096 4096,.iface 50 (.pointer (some ⟨x.rd,0,none⟩)),.int .i64 r,.int .i64 q,e,.int .i64 lb,.int .i64 (-1)]
theorem rd_read (x:Cx) (hx:x.Ok) (w:World) (hb:Below x.B x.W0 w) (n:Nat) (s:ByteArray) (hs:s.toList.isEmpty=false) (arr:Array Value) (hrd:Blk w x.rd (rdC x s n) 52) (hrb:Blk w x.rb arr 5) (hsz:arr.size=4096)
   (hsn:s.size ≤ 1000000000) (hn:n ≤ 1000000000) :
    Calls Tryz.prog 134 #[.pointer (some ⟨x.rd,0,none⟩),.slice (some ⟨x.rb,0,none⟩) 4096 4096] w fun e w'=>∃ m:Nat,e=.returned (.tuple #[.int .i64 m,.nilIface])∧RdPost x w s n arr m w':=by
  rcases Nat.eq_zero_or_pos x.pcN with h0|h0
  · exact rd_whole x w n s hs arr hrd hrb hsz h0 hsn hx.ne6
  · obtain ⟨pb,po,hp,hpb,hc⟩:=hx.pc h0
    have hv:w.cell? ⟨pb,po + n % x.pcN,none⟩=some (.int .i64 (x.pcs.getD (n % x.pcN) 0)):=by
      rw [← hc _ (Nat.mod_lt _ h0)];exact hb.cell hpb
    generalize x.pcs.getD (n % x.pcN) 0=p at hv
    by_cases h1:p ≤ 1
    · exact rd_piece0 x w n s hs arr hrd hrb hsz pb po h0 hp hx.pcN p hv 1 (by omega) hsn hn hx.ne6
    · by_cases h2:p < 4096
      · exact rd_piece0 x w n s hs arr hrd hrb hsz pb po h0 hp hx.pcN p hv p.toNat (by omega) hsn hn hx.ne6
      · exact rd_piece0 x w n s hs arr hrd hrb hsz pb po h0 hp hx.pcN p hv 4096 (by omega) hsn hn hx.ne6
theorem rdMethod (a:Addr) (w:World):(method 394 50 (.pointer (some a)) "Read").run Tryz.prog w=.ok (134,.pointer (some a)) w:=by kernel_rfl
theorem rdEnter (args:Array Value) (w:World):(callFunc 134 args).run Tryz.prog w=.ok (.enter 134 args) w:=enters_of Tryz.func134 (by kernel_rfl) rfl args w
theorem Below_drewN {B:Nat} {a w:World} (h:Below B a w) (n:Nat):Below B a (w.drewN n):=⟨h.os,h.tape,h.output,h.size,h.block⟩
theorem step_copy_zero {P:Program} {ops:Array Oper} {o:Oper} {a:Act} {w:World} {K:Act → World → Prop} {Q:Exit → Act → World → Prop} {E:Prop} (hgd:o.guard=none) (d s:Operand) (dT sT:TypeId)
    (ho:o.op=.call { callee:=.builtin .copy,args:=#[d,s],argTypes:=#[dT,sT] }) (elem:TypeId) (hu:P.underlying dT=some (.slice elem)) (hsz:(P.info? elem).map (·.size)=some 1)
    (dp sp:Option Addr) (dLen dCap sLen sCap:Nat) (hd:a.eval d=.slice dp dLen dCap) (hs:a.eval s=.slice sp sLen sCap) (hn:Nat.min sLen dLen=0)
    (h:K (a.put o.dst (.int .i64 0)) w) :
    if Region.wanted o (yielded ops a.tmps)=true then Oper.wp P o a w K Q else E:=by
  have hw:Region.wanted o (yielded ops a.tmps)=true:=by simp [Region.wanted,hgd]
  rw [if_pos hw]
  have hrun:=run_copy_none (P:=P) w dT sT o.type elem dp sp dLen dCap sLen sCap hu hsz hn
  unfold Oper.wp
  simp only [execOp,ho,resolve,invoke,builtin]
  simp [hd,hs,hrun,Result.andThen]
  exact h
def FillSome (x:Cx) (w:World) (s:ByteArray) (n:Nat) (arr:Array Value) (lb:Int) (w':World):Prop:=
  ∃ m:Nat,1 ≤ m∧m ≤ 4096∧m ≤ s.size∧Blk w' x.br (bioC x 0 m .nilIface lb) 216∧Blk w' x.rb (bytesV (s.data.toList.take m) ++ arr.toList.drop m).toArray 5 ∧
    (∃ n',n' ≤ n + 1∧Blk w' x.rd (rdC x (s.extract m s.size) n') 52)∧Mod (fun k=>k=x.br ∨ k=x.rb ∨ k=x.rd) w w'∧w'.heap.size=w.heap.size
def FillEnd (x:Cx) (w:World) (lb:Int) (w':World):Prop:=
  Blk w' x.br (bioC x 0 0 (endV x) lb) 216∧Mod (fun k=>k=x.br) w w'∧w'.heap.size=w.heap.size
end Go.Proofs.YtkjnockljapnbaaGreatDoor
namespace Go.Proofs.YtkjnockljapnbaaGreatDoor
open Go Go.RowKit
theorem fill_some0 (x:Cx) (hx:x.Ok) (w:World) (hb:Below x.B x.W0 w) (n:Nat) (s:ByteArray) (hs:s.toList.isEmpty=false) (arr:Array Value) (hrd:Blk w x.rd (rdC x s n) 52) (hrb:Blk w x.rb arr 5) (hsz:arr.size=4096)
   (hsn:s.size ≤ 1000000000) (hn:n ≤ 1000000000) (lb:Int) (hbr:Blk w x.br (bioC x 0 0 .nilIface lb) 216) :
    Calls Tryz.prog 151 #[.pointer (some ⟨x.br,0,none⟩)] w fun e w'=>e=.returned (.tuple #[])∧FillSome x w s n arr lb w':=by
  have hc:=hbr.cell
  have hf:=hbr.frozen
  have HX:=Lib.hid hx
  have HB:=Lib.hid hb
  have HRD:=Lib.hid hrd
  have HRB:=Lib.hid hrb
  have HBR:=Lib.hid hbr
  clear hx hb hrd hrb hbr
  go_enter Tryz.func151,Tryz.ntmps151
  go_wp2
  go_quiet (fail)
  have T0:Mod (fun k=>k=x.br) w (w.drewN nq):=(Mod.refl _ w).drewN nq
  have hbr1:Blk (w.drewN nq) x.br (bioC x 0 0 .nilIface lb) 216:=HBR.out
  have hz1:(w.drewN nq).heap.size=w.heap.size:=rfl
  obtain ⟨w0,hw0⟩:∃ w0,w0=w.drewN nq:=⟨_,rfl⟩
  rw [← hw0] at T0 hbr1 hz1 ⊢
  clear hw0 hc hf
  have k0:w0.cell? ⟨x.br,0,none⟩=some (.slice (some ⟨x.rb,0,none⟩) 4096 4096):=hbr1.cell 0
  have k1:w0.cell? ⟨x.br,1,none⟩=some (.iface 50 (.pointer (some ⟨x.rd,0,none⟩))):=hbr1.cell 1
  have k3:w0.cell? ⟨x.br,3,none⟩=some (.int .i64 0):=hbr1.cell 3
  have HRD0:=Lib.hid (HRD.out.mod T0 (fun h=>HX.out.ne5 h.symm))
  have HRB0:=Lib.hid (HRB.out.mod T0 (fun h=>HX.out.ne4 h.symm))
  have hcon:=Lib.hid (fun k=>rd_read x HX.out (w0.drewN k) (Below_drewN (Mod.below HB.out HB.out.size T0 (fun i hi=>by subst hi;exact HX.out.br)) k) n s hs arr HRD0.out HRB0.out hsz hsn hn)
  have HB1:=Lib.hid hbr1
  have HT0:=Lib.hid T0
  have HZ1:=Lib.hid hz1
  clear hbr1 T0 hz1
  go_wp2
  refine wp_loop_once ?_
  go_wp2
  have hmeth:=fun a w=>rdMethod a w
  have hent:=fun a w=>rdEnter a w
  go_region_held3 (fun w'=>w'.cell? ⟨x.br,0,none⟩=some (.slice (some ⟨x.rb,0,none⟩) 4096 4096)∧w'.cell? ⟨x.br,1,none⟩=some (.iface 50 (.pointer (some ⟨x.rd,0,none⟩)))∧w'.cell? ⟨x.br,3,none⟩=some (.int .i64 0))
    (first
      | go_keep
      | (go_split_ands
         have hq:=((show Blk (w0.drewN 1) x.br _ _ from HB1.out).mod hp.mod (by intro h;rcases h with h|h;exact HX.out.ne4 h;exact HX.out.ne5 h)).cell
         exact ⟨hq 0,hq 1,hq 3⟩))
    (first
      | (go_at_call 134;refine (hcon.out 1).mono ?_;rintro e w1 ⟨m,rfl,hp⟩))
  have hbr2:Blk w1 x.br (bioC x 0 0 .nilIface lb) 216:=(show Blk (w0.drewN 1) x.br _ _ from HB1.out).mod hp.mod (by intro h;rcases h with h|h;exact HX.out.ne4 h;exact HX.out.ne5 h)
  have hc2:=hbr2.cell
  have hf2:=hbr2.frozen
  have HB2:=Lib.hid hbr2
  have HP:=Lib.hid hp
  have hm1:(m:Int) ≤ 4096:=by have:=hp.m2;omega
  have hm2:¬ ((m:Int) < 0):=by omega
  have hm3:(0:Int) < (m:Int):=by have:=hp.m1;omega
  clear hbr2 hp k0 k1 k3
  go_wp2
  (try simp only [Exit.inBlock,Exit.then]);refine bodyPost_ret (results_none rfl _ _ _) rfl ?_
  have hbr3:Blk (w1.setCell ⟨x.br,3,none⟩ (.int .i64 m)) x.br (bioC x 0 m .nilIface lb) 216:=HB2.out.set 3 _
  have hne1:x.rb ≠ x.br:=fun h=>HX.out.ne4 h.symm
  have hne2:x.rd ≠ x.br:=fun h=>HX.out.ne5 h.symm
  refine ⟨rfl,m,HP.out.m1,HP.out.m2,HP.out.m3,hbr3,HP.out.row.set_ne hne1 _,?_,?_,?_⟩
  · obtain ⟨n',h1,h2⟩:=HP.out.rd
    exact ⟨n',h1,h2.set_ne hne2 _⟩
  · have h1:Mod (fun k=>k=x.br ∨ k=x.rb ∨ k=x.rd) (w0.drewN 1) w1:=HP.out.mod.mono (fun i _ h=>by rcases h with h|h <;> simp [h])
    have h2:Mod (fun k=>k=x.br ∨ k=x.rb ∨ k=x.rd) w (w0.drewN 1):=(HT0.out.mono (fun i _ h=>Or.inl h)).drewN 1
    exact (h2.trans h1 (fun _ _ h=>h)).setCell (Or.inl (Or.inl rfl)) _
  · have:=HP.out.size
    simp [World.setCell]
    rw [this]
    exact HZ1.out
end Go.Proofs.YtkjnockljapnbaaGreatDoor
namespace Go.Proofs.YtkjnockljapnbaaGreatDoor
open Go Go.RowKit
theorem fill_end0 (x:Cx) (hx:x.Ok) (w:World) (hb:Below x.B x.W0 w) (n:Nat) (s:ByteArray) (hs:s.toList.isEmpty=true) (hrd:Blk w x.rd (rdC x s n) 52)
    (lb:Int) (hbr:Blk w x.br (bioC x 0 0 .nilIface lb) 216) :
    Calls Tryz.prog 151 #[.pointer (some ⟨x.br,0,none⟩)] w fun e w'=>e=.returned (.tuple #[])∧FillEnd x w lb w':=by
  have hc:=hbr.cell
  have hf:=hbr.frozen
  have HX:=Lib.hid hx
  have HB:=Lib.hid hb
  have HRD:=Lib.hid hrd
  have HBR:=Lib.hid hbr
  clear hx hb hrd hbr
  go_enter Tryz.func151,Tryz.ntmps151
  go_wp2
  go_quiet (fail)
  have T0:Mod (fun k=>k=x.br) w (w.drewN nq):=(Mod.refl _ w).drewN nq
  have hbr1:Blk (w.drewN nq) x.br (bioC x 0 0 .nilIface lb) 216:=HBR.out
  have hz1:(w.drewN nq).heap.size=w.heap.size:=rfl
  obtain ⟨w0,hw0⟩:∃ w0,w0=w.drewN nq:=⟨_,rfl⟩
  rw [← hw0] at T0 hbr1 hz1 ⊢
  clear hw0 hc hf
  have k0:w0.cell? ⟨x.br,0,none⟩=some (.slice (some ⟨x.rb,0,none⟩) 4096 4096):=hbr1.cell 0
  have k1:w0.cell? ⟨x.br,1,none⟩=some (.iface 50 (.pointer (some ⟨x.rd,0,none⟩))):=hbr1.cell 1
  have k3:w0.cell? ⟨x.br,3,none⟩=some (.int .i64 0):=hbr1.cell 3
  have HRD0:=Lib.hid (HRD.out.mod T0 (fun h=>HX.out.ne5 h.symm))
  have heof:w0.cell? ⟨0,0,none⟩=some x.eofV:=by rw [← HX.out.eof];exact (Mod.below HB.out HB.out.size T0 (fun i hi=>by subst hi;exact HX.out.br)).cell HX.out.gB
  have hcon:=Lib.hid (fun k=>rd_end x (w0.drewN k) n s hs HRD0.out heof)
  clear heof
  have HB1:=Lib.hid hbr1
  have HT0:=Lib.hid T0
  have HZ1:=Lib.hid hz1
  clear hbr1 T0 hz1
  go_wp2
  refine wp_loop_once ?_
  go_wp2
  have hmeth:=fun a w=>rdMethod a w
  have hent:=fun a w=>rdEnter a w
  have hev:(∃ u t,endV x=.iface u t):=by unfold endV;split <;> exact ⟨_,_,rfl⟩
  obtain ⟨u,t,hev⟩:=hev
  have HEV:=Lib.hid hev
  rw [hev] at hcon
  clear hev
  go_region_held3 (fun w'=>w'.cell? ⟨x.br,0,none⟩=some (.slice (some ⟨x.rb,0,none⟩) 4096 4096)∧w'.cell? ⟨x.br,1,none⟩=some (.iface 50 (.pointer (some ⟨x.rd,0,none⟩)))∧w'.cell? ⟨x.br,3,none⟩=some (.int .i64 0))
    (first
      | go_keep
      | (go_split_ands
         refine ⟨?_,?_,?_⟩ <;> assumption))
    (first
      | (go_at_call 134;refine (hcon.out 1).mono ?_;rintro e w1 ⟨rfl,kk,rfl⟩))
  have hc2:=HB1.out.cell
  have hf2:=HB1.out.frozen
  clear k0 k1 k3
  go_wp2
  (try simp only [Exit.inBlock,Exit.then]);refine bodyPost_ret (results_none rfl _ _ _) rfl ?_
  refine ⟨rfl,?_,?_,?_⟩
  · rw [HEV.out]
    exact ((show Blk (w0.drewN (1 + kk)) x.br _ _ from HB1.out).set 3 _).set 4 _
  · exact (((HT0.out).drewN _).setCell (Or.inl rfl) _).setCell (Or.inl rfl) _
  · simp [World.setCell]
    exact HZ1.out
end Go.Proofs.YtkjnockljapnbaaGreatDoor
namespace Go.Proofs.YtkjnockljapnbaaGreatDoor
open Go Go.RowKit
theorem fill_someq (x:Cx) (hx:x.Ok) (w:World) (hb:Below x.B x.W0 w) (n:Nat) (s:ByteArray) (hs:s.toList.isEmpty=false) (arr:Array Value) (hrd:Blk w x.rd (rdC x s n) 52) (hrb:Blk w x.rb arr 5) (hsz:arr.size=4096)
   (hsn:s.size ≤ 1000000000) (hn:n ≤ 1000000000) (lb:Int) (q:Nat) (hq0:0 < q) (hq4:¬ q=4096) (hq:q ≤ 4096) (hbr:Blk w x.br (bioC x q q .nilIface lb) 216) :
    Calls Tryz.prog 151 #[.pointer (some ⟨x.br,0,none⟩)] w fun e w'=>e=.returned (.tuple #[])∧FillSome x w s n arr lb w':=by
  have hc:=hbr.cell
  have hf:=hbr.frozen
  have HX:=Lib.hid hx
  have HB:=Lib.hid hb
  have HRD:=Lib.hid hrd
  have HRB:=Lib.hid hrb
  have HBR:=Lib.hid hbr
  clear hx hb hrd hrb hbr
  have hq1:decide ((0:Int) < (q:Int))=true:=by simpa using hq0
  have hq2:(q:Int) ≤ 4096:=by omega
  have hq5:¬ (4096=q):=fun h=>hq4 h.symm
  have k0:w.cell? ⟨x.br,0,none⟩=some (.slice (some ⟨x.rb,0,none⟩) 4096 4096):=hc 0
  have k2:w.cell? ⟨x.br,2,none⟩=some (.int .i64 q):=hc 2
  have k3:w.cell? ⟨x.br,3,none⟩=some (.int .i64 q):=hc 3
  clear hc
  go_enter Tryz.func151,Tryz.ntmps151
  go_wp2
  go_region_held3 (fun w'=>w'.cell? ⟨x.br,0,none⟩=some (.slice (some ⟨x.rb,0,none⟩) 4096 4096)∧w'.cell? ⟨x.br,2,none⟩=some (.int .i64 q)∧w'.cell? ⟨x.br,3,none⟩=some (.int .i64 q))
    (go_keep)
    (first
      | (refine step_copy_zero rfl (.tmp 13) (.tmp 26) 74 74 rfl 5 Tryz.underlying74 u8info _ _ _ _ _ _ rfl rfl (by simp) ?_))
  go_wp2
  go_region
  go_wp2
  go_quiet (fail)
  obtain ⟨w0,hw0⟩:∃ w0,w0=((w.setCell ⟨x.br,3,none⟩ (.int .i64 0)).setCell ⟨x.br,2,none⟩ (.int .i64 0)).drew.drew.drewN nq:=⟨_,rfl⟩
  have T0:Mod (fun k=>k=x.br) w w0:=by
    rw [hw0];exact ((((Mod.refl (fun k=>k=x.br) w).setCell (p:=⟨x.br,3,none⟩) (Or.inl rfl) _).setCell (p:=⟨x.br,2,none⟩) (Or.inl rfl) _).drew.drew.drewN nq)
  have hbr1:Blk w0 x.br (bioC x 0 0 .nilIface lb) 216:=by
    rw [hw0];exact (HBR.out.set 3 _).set 2 _
  have hz1:w0.heap.size=w.heap.size:=by rw [hw0];simp [World.setCell]
  rw [show (((w.setCell ⟨x.br,3,none⟩ (.int .i64 0)).setCell ⟨x.br,2,none⟩ (.int .i64 0)).drew.drew.drewN nq)=w0 from hw0.symm]
  clear hw0 hf k0 k2 k3
  have k0:w0.cell? ⟨x.br,0,none⟩=some (.slice (some ⟨x.rb,0,none⟩) 4096 4096):=hbr1.cell 0
  have k1:w0.cell? ⟨x.br,1,none⟩=some (.iface 50 (.pointer (some ⟨x.rd,0,none⟩))):=hbr1.cell 1
  have k3:w0.cell? ⟨x.br,3,none⟩=some (.int .i64 0):=hbr1.cell 3
  have HRD0:=Lib.hid (HRD.out.mod T0 (fun h=>HX.out.ne5 h.symm))
  have HRB0:=Lib.hid (HRB.out.mod T0 (fun h=>HX.out.ne4 h.symm))
  have hcon:=Lib.hid (fun k=>rd_read x HX.out (w0.drewN k) (Below_drewN (Mod.below HB.out HB.out.size T0 (fun i hi=>by subst hi;exact HX.out.br)) k) n s hs arr HRD0.out HRB0.out hsz hsn hn)
  have HB1:=Lib.hid hbr1
  have HT0:=Lib.hid T0
  have HZ1:=Lib.hid hz1
  clear hbr1 T0 hz1
  go_wp2
  refine wp_loop_once ?_
  go_wp2
  have hmeth:=fun a w=>rdMethod a w
  have hent:=fun a w=>rdEnter a w
  go_region_held3 (fun w'=>w'.cell? ⟨x.br,0,none⟩=some (.slice (some ⟨x.rb,0,none⟩) 4096 4096)∧w'.cell? ⟨x.br,1,none⟩=some (.iface 50 (.pointer (some ⟨x.rd,0,none⟩)))∧w'.cell? ⟨x.br,3,none⟩=some (.int .i64 0))
    (first
      | go_keep
      | (go_split_ands
         have hq:=((show Blk (w0.drewN 1) x.br _ _ from HB1.out).mod hp.mod (by intro h;rcases h with h|h;exact HX.out.ne4 h;exact HX.out.ne5 h)).cell
         exact ⟨hq 0,hq 1,hq 3⟩))
    (first
      | (go_at_call 134;refine (hcon.out 1).mono ?_;rintro e w1 ⟨m,rfl,hp⟩))
  have hbr2:Blk w1 x.br (bioC x 0 0 .nilIface lb) 216:=(show Blk (w0.drewN 1) x.br _ _ from HB1.out).mod hp.mod (by intro h;rcases h with h|h;exact HX.out.ne4 h;exact HX.out.ne5 h)
  have hc2:=hbr2.cell
  have hf2:=hbr2.frozen
  have HB2:=Lib.hid hbr2
  have HP:=Lib.hid hp
  have hm1:(m:Int) ≤ 4096:=by have:=hp.m2;omega
  have hm2:¬ ((m:Int) < 0):=by omega
  have hm3:(0:Int) < (m:Int):=by have:=hp.m1;omega
  clear hbr2 hp k0 k1 k3
  go_wp2
  (try simp only [Exit.inBlock,Exit.then]);refine bodyPost_ret (results_none rfl _ _ _) rfl ?_
  have hbr3:Blk (w1.setCell ⟨x.br,3,none⟩ (.int .i64 m)) x.br (bioC x 0 m .nilIface lb) 216:=HB2.out.set 3 _
  have hne1:x.rb ≠ x.br:=fun h=>HX.out.ne4 h.symm
  have hne2:x.rd ≠ x.br:=fun h=>HX.out.ne5 h.symm
  refine ⟨rfl,m,HP.out.m1,HP.out.m2,HP.out.m3,hbr3,HP.out.row.set_ne hne1 _,?_,?_,?_⟩
  · obtain ⟨n',h1,h2⟩:=HP.out.rd
    exact ⟨n',h1,h2.set_ne hne2 _⟩
  · have h1:Mod (fun k=>k=x.br ∨ k=x.rb ∨ k=x.rd) (w0.drewN 1) w1:=HP.out.mod.mono (fun i _ h=>by rcases h with h|h <;> simp [h])
    have h2:Mod (fun k=>k=x.br ∨ k=x.rb ∨ k=x.rd) w (w0.drewN 1):=(HT0.out.mono (fun i _ h=>Or.inl h)).drewN 1
    exact (h2.trans h1 (fun _ _ h=>h)).setCell (Or.inl (Or.inl rfl)) _
  · have:=HP.out.size
    simp [World.setCell]
    rw [this]
    exact HZ1.out
end Go.Proofs.YtkjnockljapnbaaGreatDoor
namespace Go.Proofs.YtkjnockljapnbaaGreatDoor
open Go Go.RowKit
theorem fill_endq (x:Cx) (hx:x.Ok) (w:World) (hb:Below x.B x.W0 w) (n:Nat) (s:ByteArray) (hs:s.toList.isEmpty=true) (hrd:Blk w x.rd (rdC x s n) 52)
    (lb:Int) (q:Nat) (hq0:0 < q) (hq4:¬ q=4096) (hq:q ≤ 4096) (hbr:Blk w x.br (bioC x q q .nilIface lb) 216) :
    Calls Tryz.prog 151 #[.pointer (some ⟨x.br,0,none⟩)] w fun e w'=>e=.returned (.tuple #[])∧FillEnd x w lb w':=by
  have hc:=hbr.cell
  have hf:=hbr.frozen
  have HX:=Lib.hid hx
  have HB:=Lib.hid hb
  have HRD:=Lib.hid hrd
  have HBR:=Lib.hid hbr
  clear hx hb hrd hbr
  have hq1:decide ((0:Int) < (q:Int))=true:=by simpa using hq0
  have hq2:(q:Int) ≤ 4096:=by omega
  have hq5:¬ (4096=q):=fun h=>hq4 h.symm
  have k0:w.cell? ⟨x.br,0,none⟩=some (.slice (some ⟨x.rb,0,none⟩) 4096 4096):=hc 0
  have k2:w.cell? ⟨x.br,2,none⟩=some (.int .i64 q):=hc 2
  have k3:w.cell? ⟨x.br,3,none⟩=some (.int .i64 q):=hc 3
  clear hc
  go_enter Tryz.func151,Tryz.ntmps151
  go_wp2
  go_region_held3 (fun w'=>w'.cell? ⟨x.br,0,none⟩=some (.slice (some ⟨x.rb,0,none⟩) 4096 4096)∧w'.cell? ⟨x.br,2,none⟩=some (.int .i64 q)∧w'.cell? ⟨x.br,3,none⟩=some (.int .i64 q))
    (go_keep)
    (first
      | (refine step_copy_zero rfl (.tmp 13) (.tmp 26) 74 74 rfl 5 Tryz.underlying74 u8info _ _ _ _ _ _ rfl rfl (by simp) ?_))
  go_wp2
  go_region
  go_wp2
  go_quiet (fail)
  obtain ⟨w0,hw0⟩:∃ w0,w0=((w.setCell ⟨x.br,3,none⟩ (.int .i64 0)).setCell ⟨x.br,2,none⟩ (.int .i64 0)).drew.drew.drewN nq:=⟨_,rfl⟩
  have T0:Mod (fun k=>k=x.br) w w0:=by
    rw [hw0];exact ((((Mod.refl (fun k=>k=x.br) w).setCell (p:=⟨x.br,3,none⟩) (Or.inl rfl) _).setCell (p:=⟨x.br,2,none⟩) (Or.inl rfl) _).drew.drew.drewN nq)
  have hbr1:Blk w0 x.br (bioC x 0 0 .nilIface lb) 216:=by
    rw [hw0];exact (HBR.out.set 3 _).set 2 _
  have hz1:w0.heap.size=w.heap.size:=by rw [hw0];simp [World.setCell]
  rw [show (((w.setCell ⟨x.br,3,none⟩ (.int .i64 0)).setCell ⟨x.br,2,none⟩ (.int .i64 0)).drew.drew.drewN nq)=w0 from hw0.symm]
  clear hw0 hf k0 k2 k3
  have k0:w0.cell? ⟨x.br,0,none⟩=some (.slice (some ⟨x.rb,0,none⟩) 4096 4096):=hbr1.cell 0
  have k1:w0.cell? ⟨x.br,1,none⟩=some (.iface 50 (.pointer (some ⟨x.rd,0,none⟩))):=hbr1.cell 1
  have k3:w0.cell? ⟨x.br,3,none⟩=some (.int .i64 0):=hbr1.cell 3
  have HRD0:=Lib.hid (HRD.out.mod T0 (fun h=>HX.out.ne5 h.symm))
  have heof:w0.cell? ⟨0,0,none⟩=some x.eofV:=by rw [← HX.out.eof];exact (Mod.below HB.out HB.out.size T0 (fun i hi=>by subst hi;exact HX.out.br)).cell HX.out.gB
  have hcon:=Lib.hid (fun k=>rd_end x (w0.drewN k) n s hs HRD0.out heof)
  clear heof
  have HB1:=Lib.hid hbr1
  have HT0:=Lib.hid T0
  have HZ1:=Lib.hid hz1
  clear hbr1 T0 hz1
  go_wp2
  refine wp_loop_once ?_
  go_wp2
  have hmeth:=fun a w=>rdMethod a w
  have hent:=fun a w=>rdEnter a w
  have hev:(∃ u t,endV x=.iface u t):=by unfold endV;split <;> exact ⟨_,_,rfl⟩
  obtain ⟨u,t,hev⟩:=hev
  have HEV:=Lib.hid hev
  rw [hev] at hcon
  clear hev
  go_region_held3 (fun w'=>w'.cell? ⟨x.br,0,none⟩=some (.slice (some ⟨x.rb,0,none⟩) 4096 4096)∧w'.cell? ⟨x.br,1,none⟩=some (.iface 50 (.pointer (some ⟨x.rd,0,none⟩)))∧w'.cell? ⟨x.br,3,none⟩=some (.int .i64 0))
    (first
      | go_keep
      | (go_split_ands
         refine ⟨?_,?_,?_⟩ <;> assumption))
    (first
      | (go_at_call 134;refine (hcon.out 1).mono ?_;rintro e w1 ⟨rfl,kk,rfl⟩))
  have hc2:=HB1.out.cell
  have hf2:=HB1.out.frozen
  clear k0 k1 k3
  go_wp2
  (try simp only [Exit.inBlock,Exit.then]);refine bodyPost_ret (results_none rfl _ _ _) rfl ?_
  refine ⟨rfl,?_,?_,?_⟩
  · rw [HEV.out]
    exact ((show Blk (w0.drewN (1 + kk)) x.br _ _ from HB1.out).set 3 _).set 4 _
  · exact (((HT0.out).drewN _).setCell (Or.inl rfl) _).setCell (Or.inl rfl) _
  · simp [World.setCell]
    exact HZ1.out
end Go.Proofs.YtkjnockljapnbaaGreatDoor
namespace Go.Proofs.YtkjnockljapnbaaGreatDoor
open Go Go.RowKit
theorem fill_somer (x:Cx) (hx:x.Ok) (w:World) (hb:Below x.B x.W0 w) (n:Nat) (s:ByteArray) (hs:s.toList.isEmpty=false) (arr:Array Value) (hrd:Blk w x.rd (rdC x s n) 52) (hrb:Blk w x.rb arr 5) (hsz:arr.size=4096)
   (hsn:s.size ≤ 1000000000) (hn:n ≤ 1000000000) (lb:Int) (hbr:Blk w x.br (bioC x 4096 4096 .nilIface lb) 216) :
    Calls Tryz.prog 151 #[.pointer (some ⟨x.br,0,none⟩)] w fun e w'=>e=.returned (.tuple #[])∧FillSome x w s n arr lb w':=by
  have hc:=hbr.cell
  have hf:=hbr.frozen
  have HX:=Lib.hid hx
  have HB:=Lib.hid hb
  have HRD:=Lib.hid hrd
  have HRB:=Lib.hid hrb
  have HBR:=Lib.hid hbr
  clear hx hb hrd hrb hbr
  have k0:w.cell? ⟨x.br,0,none⟩=some (.slice (some ⟨x.rb,0,none⟩) 4096 4096):=hc 0
  have k2:w.cell? ⟨x.br,2,none⟩=some (.int .i64 4096):=hc 2
  have k3:w.cell? ⟨x.br,3,none⟩=some (.int .i64 4096):=hc 3
  clear hc
  go_enter Tryz.func151,Tryz.ntmps151
  go_wp2
  go_region_held3 (fun w'=>w'.cell? ⟨x.br,0,none⟩=some (.slice (some ⟨x.rb,0,none⟩) 4096 4096)∧w'.cell? ⟨x.br,2,none⟩=some (.int .i64 4096)∧w'.cell? ⟨x.br,3,none⟩=some (.int .i64 4096))
    (go_keep)
    (first
      | (refine step_copy_zero rfl (.tmp 13) (.tmp 26) 74 74 rfl 5 Tryz.underlying74 u8info _ _ _ _ _ _ rfl rfl (by simp) ?_))
  go_wp2
  go_region
  go_wp2
  go_quiet (fail)
  obtain ⟨w0,hw0⟩:∃ w0,w0=((w.setCell ⟨x.br,3,none⟩ (.int .i64 0)).setCell ⟨x.br,2,none⟩ (.int .i64 0)).drew.drew.drewN nq:=⟨_,rfl⟩
  have T0:Mod (fun k=>k=x.br) w w0:=by
    rw [hw0];exact ((((Mod.refl (fun k=>k=x.br) w).setCell (p:=⟨x.br,3,none⟩) (Or.inl rfl) _).setCell (p:=⟨x.br,2,none⟩) (Or.inl rfl) _).drew.drew.drewN nq)
  have hbr1:Blk w0 x.br (bioC x 0 0 .nilIface lb) 216:=by
    rw [hw0];exact (HBR.out.set 3 _).set 2 _
  have hz1:w0.heap.size=w.heap.size:=by rw [hw0];simp [World.setCell]
  rw [show (((w.setCell ⟨x.br,3,none⟩ (.int .i64 0)).setCell ⟨x.br,2,none⟩ (.int .i64 0)).drew.drew.drewN nq)=w0 from hw0.symm]
  clear hw0 hf k0 k2 k3
  have k0:w0.cell? ⟨x.br,0,none⟩=some (.slice (some ⟨x.rb,0,none⟩) 4096 4096):=hbr1.cell 0
  have k1:w0.cell? ⟨x.br,1,none⟩=some (.iface 50 (.pointer (some ⟨x.rd,0,none⟩))):=hbr1.cell 1
  have k3:w0.cell? ⟨x.br,3,none⟩=some (.int .i64 0):=hbr1.cell 3
  have HRD0:=Lib.hid (HRD.out.mod T0 (fun h=>HX.out.ne5 h.symm))
  have HRB0:=Lib.hid (HRB.out.mod T0 (fun h=>HX.out.ne4 h.symm))
  have hcon:=Lib.hid (fun k=>rd_read x HX.out (w0.drewN k) (Below_drewN (Mod.below HB.out HB.out.size T0 (fun i hi=>by subst hi;exact HX.out.br)) k) n s hs arr HRD0.out HRB0.out hsz hsn hn)
  have HB1:=Lib.hid hbr1
  have HT0:=Lib.hid T0
  have HZ1:=Lib.hid hz1
  clear hbr1 T0 hz1
  go_wp2
  refine wp_loop_once ?_
  go_wp2
  have hmeth:=fun a w=>rdMethod a w
  have hent:=fun a w=>rdEnter a w
  go_region_held3 (fun w'=>w'.cell? ⟨x.br,0,none⟩=some (.slice (some ⟨x.rb,0,none⟩) 4096 4096)∧w'.cell? ⟨x.br,1,none⟩=some (.iface 50 (.pointer (some ⟨x.rd,0,none⟩)))∧w'.cell? ⟨x.br,3,none⟩=some (.int .i64 0))
    (first
      | go_keep
      | (go_split_ands
         have hq:=((show Blk (w0.drewN 1) x.br _ _ from HB1.out).mod hp.mod (by intro h;rcases h with h|h;exact HX.out.ne4 h;exact HX.out.ne5 h)).cell
         exact ⟨hq 0,hq 1,hq 3⟩))
    (first
      | (go_at_call 134;refine (hcon.out 1).mono ?_;rintro e w1 ⟨m,rfl,hp⟩))
  have hbr2:Blk w1 x.br (bioC x 0 0 .nilIface lb) 216:=(show Blk (w0.drewN 1) x.br _ _ from HB1.out).mod hp.mod (by intro h;rcases h with h|h;exact HX.out.ne4 h;exact HX.out.ne5 h)
  have hc2:=hbr2.cell
  have hf2:=hbr2.frozen
  have HB2:=Lib.hid hbr2
  have HP:=Lib.hid hp
  have hm1:(m:Int) ≤ 4096:=by have:=hp.m2;omega
  have hm2:¬ ((m:Int) < 0):=by omega
  have hm3:(0:Int) < (m:Int):=by have:=hp.m1;omega
  clear hbr2 hp k0 k1 k3
  go_wp2
  (try simp only [Exit.inBlock,Exit.then]);refine bodyPost_ret (results_none rfl _ _ _) rfl ?_
  have hbr3:Blk (w1.setCell ⟨x.br,3,none⟩ (.int .i64 m)) x.br (bioC x 0 m .nilIface lb) 216:=HB2.out.set 3 _
  have hne1:x.rb ≠ x.br:=fun h=>HX.out.ne4 h.symm
  have hne2:x.rd ≠ x.br:=fun h=>HX.out.ne5 h.symm
  refine ⟨rfl,m,HP.out.m1,HP.out.m2,HP.out.m3,hbr3,HP.out.row.set_ne hne1 _,?_,?_,?_⟩
  · obtain ⟨n',h1,h2⟩:=HP.out.rd
    exact ⟨n',h1,h2.set_ne hne2 _⟩
  · have h1:Mod (fun k=>k=x.br ∨ k=x.rb ∨ k=x.rd) (w0.drewN 1) w1:=HP.out.mod.mono (fun i _ h=>by rcases h with h|h <;> simp [h])
    have h2:Mod (fun k=>k=x.br ∨ k=x.rb ∨ k=x.rd) w (w0.drewN 1):=(HT0.out.mono (fun i _ h=>Or.inl h)).drewN 1
    exact (h2.trans h1 (fun _ _ h=>h)).setCell (Or.inl (Or.inl rfl)) _
  · have:=HP.out.size
    simp [World.setCell]
    rw [this]
    exact HZ1.out
end Go.Proofs.YtkjnockljapnbaaGreatDoor
