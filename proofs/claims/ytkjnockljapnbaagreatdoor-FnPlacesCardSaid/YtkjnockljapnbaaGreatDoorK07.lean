/- Part of the proof that laws.FnBeginning, laws.FnPlaces returns true for every argument (FeR, Rb, Rb2, In). No condition of its own. -/
import Derived.Test.YtkjnockljapnbaaGreatDoorK06
import Derived.Lib.IndexBytes
set_option linter.all false
set_option maxHeartbeats 8000000
set_option maxRecDepth 100000
namespace Go.Proofs.YtkjnockljapnbaaGreatDoor
open Go Go.RowKit
theorem fill_endr (x:Cx) (hx:x.Ok) (w:World) (hb:Below x.B x.W0 w) (n:Nat) (s:ByteArray) (hs:s.toList.isEmpty=true) (hrd:Blk w x.rd (rdC x s n) 52)
    (lb:Int) (hbr:Blk w x.br (bioC x 4096 4096 .nilIface lb) 216) :
    Calls Tryz.prog 151 #[.pointer (some ⟨x.br,0,none⟩)] w fun e w'=>e=.returned (.tuple #[])∧FillEnd x w lb w':=by
  have hc:=hbr.cell
  have hf:=hbr.frozen
  have HX:=Lib.hid hx
  have HB:=Lib.hid hb
  have HRD:=Lib.hid hrd
  have HBR:=Lib.hid hbr
  clear hx hb hrd hbr
  have k0:w.cell? ⟨x.br,0,none⟩=some (.slice (some ⟨x.rb,0,none⟩) 4096 4096):=hc 0
  have k2:w.cell? ⟨x.br,2,none⟩=some (.int .i64 4096):=hc 2
  have k3:w.cell? ⟨x.br,3,none⟩=some (.int .i64 4096):=hc 3
  clear hc
  go_enter Tryz.func151,Tryz.ntmps151
  go_wp2
  go_region_held3 (fun w'=>w'.cell? ⟨x.br,0,none⟩=some (.slice (some ⟨x.rb,0,none⟩) 4096 4096)∧w'.cell? ⟨x.br,2,none⟩=some (.int .i64 4096)∧w'.cell? ⟨x.br,3,none⟩=some (.int .i64 4096))
    (go_keep)
    (first
      | (refine step_copy_zero rfl (.tmp 13) (.tmp 26) 74 74 rfl 5 Tryz.underlying74 u8info _ _ _ _ _ _ rfl rfl (by simp) ?_))
  go_wp2
  go_region
  go_wp2
  go_quiet (fail)
  obtain ⟨w0,hw0⟩:∃ w0,w0=((w.setCell ⟨x.br,3,none⟩ (.int .i64 0)).setCell ⟨x.br,2,none⟩ (.int .i64 0)).drew.drew.drewN nq:=⟨_,rfl⟩
  have T0:Mod (fun k=>k=x.br) w w0:=by
    rw [hw0];exact ((((Mod.refl (fun k=>k=x.br) w).setCell (p:=⟨x.br,3,none⟩) (Or.inl rfl) _).setCell (p:=⟨x.br,2,none⟩) (Or.inl rfl) _).drew.drew.drewN nq)
  have hbr1:Blk w0 x.br (bioC x 0 0 .nilIface lb) 216:=by
    rw [hw0];exact (HBR.out.set 3 _).set 2 _
  have hz1:w0.heap.size=w.heap.size:=by rw [hw0];simp [World.setCell]
  rw [show (((w.setCell ⟨x.br,3,none⟩ (.int .i64 0)).setCell ⟨x.br,2,none⟩ (.int .i64 0)).drew.drew.drewN nq)=w0 from hw0.symm]
  clear hw0 hf k0 k2 k3
  have k0:w0.cell? ⟨x.br,0,none⟩=some (.slice (some ⟨x.rb,0,none⟩) 4096 4096):=hbr1.cell 0
  have k1:w0.cell? ⟨x.br,1,none⟩=some (.iface 50 (.pointer (some ⟨x.rd,0,none⟩))):=hbr1.cell 1
  have k3:w0.cell? ⟨x.br,3,none⟩=some (.int .i64 0):=hbr1.cell 3
  have HRD0:=Lib.hid (HRD.out.mod T0 (fun h=>HX.out.ne5 h.symm))
  have heof:w0.cell? ⟨0,0,none⟩=some x.eofV:=by rw [← HX.out.eof];exact (Mod.below HB.out HB.out.size T0 (fun i hi=>by subst hi;exact HX.out.br)).cell HX.out.gB
  have hcon:=Lib.hid (fun k=>rd_end x (w0.drewN k) n s hs HRD0.out heof)
  clear heof
  have HB1:=Lib.hid hbr1
  have HT0:=Lib.hid T0
  have HZ1:=Lib.hid hz1
  clear hbr1 T0 hz1
  go_wp2
  refine wp_loop_once ?_
  go_wp2
  have hmeth:=fun a w=>rdMethod a w
  have hent:=fun a w=>rdEnter a w
  have hev:(∃ u t,endV x=.iface u t):=by unfold endV;split <;> exact ⟨_,_,rfl⟩
  obtain ⟨u,t,hev⟩:=hev
  have HEV:=Lib.hid hev
  rw [hev] at hcon
  clear hev
  go_region_held3 (fun w'=>w'.cell? ⟨x.br,0,none⟩=some (.slice (some ⟨x.rb,0,none⟩) 4096 4096)∧w'.cell? ⟨x.br,1,none⟩=some (.iface 50 (.pointer (some ⟨x.rd,0,none⟩)))∧w'.cell? ⟨x.br,3,none⟩=some (.int .i64 0))
    (first
      | go_keep
      | (go_split_ands
         refine ⟨?_,?_,?_⟩ <;> assumption))
    (first
      | (go_at_call 134;refine (hcon.out 1).mono ?_;rintro e w1 ⟨rfl,kk,rfl⟩))
  have hc2:=HB1.out.cell
  have hf2:=HB1.out.frozen
  clear k0 k1 k3
  go_wp2
  (try simp only [Exit.inBlock,Exit.then]);refine bodyPost_ret (results_none rfl _ _ _) rfl ?_
  refine ⟨rfl,?_,?_,?_⟩
  · rw [HEV.out]
    exact ((show Blk (w0.drewN (1 + kk)) x.br _ _ from HB1.out).set 3 _).set 4 _
  · exact (((HT0.out).drewN _).setCell (Or.inl rfl) _).setCell (Or.inl rfl) _
  · simp [World.setCell]
    exact HZ1.out
end Go.Proofs.YtkjnockljapnbaaGreatDoor
namespace Go.Proofs.YtkjnockljapnbaaGreatDoor
open Go Go.RowKit
def BioIn (x:Cx) (w:World) (un:Bs):Prop:=
  ∃ (r q n:Nat) (lb:Int) (arr:Array Value) (s:ByteArray) (us:Bs),
    Blk w x.br (bioC x r q .nilIface lb) 216∧Blk w x.rb arr 5∧arr.size=4096∧Blk w x.rd (rdC x s n) 52∧r ≤ q∧q ≤ 4096∧us.length=q - r ∧
    (∀ j,j < us.length → arr[r + j]?=some (.int .u8 (us.getD j 0).toNat))∧un=us ++ s.data.toList∧n + s.size ≤ 1000000000
def Cx.Sio (x:Cx) (k:Nat):Prop:=k=x.br ∨ k=x.rb ∨ k=x.rd
theorem BioIn.mod {x:Cx} {w w':World} {un:Bs} {S:Nat → Prop} (h:BioIn x w un) (hm:Mod S w w') (h1:¬ S x.br) (h2:¬ S x.rb) (h3:¬ S x.rd):BioIn x w' un:=by
  obtain ⟨r,q,n,lb,arr,s,us,a,b,c,d,e⟩:=h
  exact ⟨r,q,n,lb,arr,s,us,a.mod hm h1,b.mod hm h2,c,d.mod hm h3,e⟩
theorem rb_hit (x:Cx) (hx:x.Ok) (w:World) (r q n:Nat) (lb:Int) (arr:Array Value) (s:ByteArray) (b:UInt8) (us:Bs)
    (hbr:Blk w x.br (bioC x r q .nilIface lb) 216) (hrb:Blk w x.rb arr 5) (hsz:arr.size=4096) (hrd:Blk w x.rd (rdC x s n) 52)
    (hrq:r < q) (hq:q ≤ 4096) (hl:(b :: us).length=q - r) (hel:∀ j,j < (b :: us).length → arr[r + j]?=some (.int .u8 ((b :: us).getD j 0).toNat)) (hns:n + s.size ≤ 1000000000) :
    Calls Tryz.prog 150 #[.pointer (some ⟨x.br,0,none⟩)] w fun e w'=>e=.returned (.tuple #[.int .u8 b.toNat,.nilIface])∧BioIn x w' (us ++ s.data.toList)∧Mod x.Sio w w'∧w'.heap.size=w.heap.size:=by
  have hc:=hbr.cell
  have hf:=hbr.frozen
  have hb:w.cell? ⟨x.rb,r,none⟩=some (.int .u8 b.toNat):=by rw [hrb.cell];have:=hel 0 (by simp);simpa using this
  have hr1:((r:Int) == (q:Int))=false:=by simp;omega
  have hr2:(r:Int) < 4096:=by omega
  have hne1:¬ x.br=x.rb:=hx.ne4
  have hne2:¬ x.rb=x.br:=fun h=>hx.ne4 h.symm
  have HX:=Lib.hid hx
  have HRD:=Lib.hid hrd
  have HRB:=Lib.hid hrb
  have HBR:=Lib.hid hbr
  have HEL:=Lib.hid hel
  have HL:=Lib.hid hl
  clear hx hrd hrb hbr hel hl
  go_enter Tryz.func150,Tryz.ntmps150
  go_wp2
  refine wp_loop_once ?_
  go_wp2
  go_quiet (fail)
  go_wp2
  go_quiet (fail)
  go_wp2
  go_ret2
  have hbr1:Blk ((((w.setCell ⟨x.br,6,none⟩ (.int .i64 (-1))).setCell ⟨x.br,2,none⟩ (.int .i64 ((r:Int) + 1))).setCell ⟨x.br,5,none⟩ (.int .i64 b.toNat))) x.br (bioC x (r + 1:Nat) q .nilIface b.toNat) 216:=by
    have:=((HBR.out.set 6 (.int .i64 (-1))).set 2 (.int .i64 ((r:Int) + 1))).set 5 (.int .i64 b.toNat)
    rw [show (((r + 1:Nat):Int))=(r:Int) + 1 from by omega]
    exact this
  have hM:Mod x.Sio w (((w.setCell ⟨x.br,6,none⟩ (.int .i64 (-1))).setCell ⟨x.br,2,none⟩ (.int .i64 ((r:Int) + 1))).setCell ⟨x.br,5,none⟩ (.int .i64 b.toNat)):=
    (((Mod.refl x.Sio w).setCell (p:=⟨x.br,6,none⟩) (Or.inl (Or.inl rfl)) _).setCell (p:=⟨x.br,2,none⟩) (Or.inl (Or.inl rfl)) _).setCell (p:=⟨x.br,5,none⟩) (Or.inl (Or.inl rfl)) _
  have hw64:wrap64 (b.toNat:Int)=b.toNat:=by have:=UInt8.toNat_lt b;unfold wrap64;omega
  try simp only [hw64]
  refine ⟨rfl,⟨r + 1,q,n,b.toNat,arr,s,us,hbr1,?_,hsz,?_,by omega,hq,?_,?_,rfl,hns⟩,⟨hM.os,hM.tape,hM.output,hM.size,hM.block⟩,by simp [World.setCell]⟩
  · exact ((HRB.out.set_ne hne2 _).set_ne hne2 _).set_ne hne2 _
  · have h:x.rd ≠ x.br:=fun h=>HX.out.ne5 h.symm
    exact ((HRD.out.set_ne h _).set_ne h _).set_ne h _
  · have:=HL.out
    simp at this
    omega
  · intro j hj
    have:=HEL.out (j + 1) (by simp;omega)
    rw [show r + 1 + j=r + (j + 1) by omega]
    simpa using this
theorem rb_fill (x:Cx) (hx:x.Ok) (w:World) (hb:Below x.B x.W0 w) (q n:Nat) (lb:Int) (arr:Array Value) (s:ByteArray) (hs:s.toList.isEmpty=false)
    (hbr:Blk w x.br (bioC x q q .nilIface lb) 216) (hrb:Blk w x.rb arr 5) (hsz:arr.size=4096) (hrd:Blk w x.rd (rdC x s n) 52)
    (hq:q ≤ 4096) (hns:n + s.size ≤ 1000000000) :
    Calls Tryz.prog 151 #[.pointer (some ⟨x.br,0,none⟩)] w fun e w'=>e=.returned (.tuple #[])∧FillSome x w s n arr lb w':=by
  by_cases h0:q=0
  · subst h0
    exact fill_some0 x hx w hb n s hs arr hrd hrb hsz (by omega) (by omega) lb hbr
  · by_cases h1:q=4096
    · subst h1
      exact fill_somer x hx w hb n s hs arr hrd hrb hsz (by omega) (by omega) lb hbr
    · exact fill_someq x hx w hb n s hs arr hrd hrb hsz (by omega) (by omega) lb q (by omega) h1 hq hbr
theorem rb_fillEnd (x:Cx) (hx:x.Ok) (w:World) (hb:Below x.B x.W0 w) (q n:Nat) (lb:Int) (s:ByteArray) (hs:s.toList.isEmpty=true)
    (hbr:Blk w x.br (bioC x q q .nilIface lb) 216) (hrd:Blk w x.rd (rdC x s n) 52) (hq:q ≤ 4096) :
    Calls Tryz.prog 151 #[.pointer (some ⟨x.br,0,none⟩)] w fun e w'=>e=.returned (.tuple #[])∧FillEnd x w lb w':=by
  by_cases h0:q=0
  · subst h0
    exact fill_end0 x hx w hb n s hs hrd lb hbr
  · by_cases h1:q=4096
    · subst h1
      exact fill_endr x hx w hb n s hs hrd lb hbr
    · exact fill_endq x hx w hb n s hs hrd lb q (by omega) h1 hq hbr
end Go.Proofs.YtkjnockljapnbaaGreatDoor
namespace Go.Proofs.YtkjnockljapnbaaGreatDoor
open Go Go.RowKit
theorem extract_drop (s:ByteArray) (m:Nat):(s.extract m s.size).data.toList=s.data.toList.drop m:=Lib.extract_to_end s m
theorem bytesV_get (l:Bs) (j:Nat) (h:j < l.length):(bytesV l)[j]?=some (.int .u8 (l.getD j 0).toNat):=by
  simp [bytesV,List.getD,h]
theorem row_get (l:Bs) (r:List Value) (j:Nat) (h:j < l.length):((bytesV l ++ r).toArray:Array Value)[j]?=some (.int .u8 (l.getD j 0).toNat):=by
  rw [List.getElem?_toArray,List.getElem?_append_left (by simpa [bytesV] using h),bytesV_get l j h]
theorem rb_miss (x:Cx) (hx:x.Ok) (w:World) (hb:Below x.B x.W0 w) (q n:Nat) (lb:Int) (arr:Array Value) (s:ByteArray) (b:UInt8) (un:Bs) (hs:s.data.toList=b :: un)
    (hbr:Blk w x.br (bioC x q q .nilIface lb) 216) (hrb:Blk w x.rb arr 5) (hsz:arr.size=4096) (hrd:Blk w x.rd (rdC x s n) 52)
    (hq:q ≤ 4096) (hns:n + s.size ≤ 1000000000) :
    Calls Tryz.prog 150 #[.pointer (some ⟨x.br,0,none⟩)] w fun e w'=>e=.returned (.tuple #[.int .u8 b.toNat,.nilIface])∧BioIn x w' un∧Mod x.Sio w w'∧w'.heap.size=w.heap.size:=by
  have hc:=hbr.cell
  have hf:=hbr.frozen
  have hr1:((q:Int) == (q:Int))=true:=by simp
  have hse:s.toList.isEmpty=false:=by
    have:s.toList=s.data.toList:=by simp [ByteArray.toList_eq]
    rw [this,hs];rfl
  obtain ⟨W,hW⟩:∃ W,W=w.setCell ⟨x.br,6,none⟩ (.int .i64 (-1)):=⟨_,rfl⟩
  have hM0:Mod x.Sio w W:=by rw [hW];exact (Mod.refl x.Sio w).setCell (p:=⟨x.br,6,none⟩) (Or.inl (Or.inl rfl)) _
  have hbrW:Blk W x.br (bioC x q q .nilIface lb) 216:=by rw [hW];exact hbr.set 6 _
  have hrbW:Blk W x.rb arr 5:=by rw [hW];exact hrb.set_ne (fun h=>hx.ne4 h.symm) _
  have hrdW:Blk W x.rd (rdC x s n) 52:=by rw [hW];exact hrd.set_ne (fun h=>hx.ne5 h.symm) _
  have hbW:Below x.B x.W0 W:=Mod.below hb hb.size hM0 (fun i hi=>by rcases hi with h|h|h <;> subst h;exact hx.br;exact hx.rb;exact hx.rd)
  have hzW:W.heap.size=w.heap.size:=by rw [hW];simp [World.setCell]
  have hcon:=Lib.hid (fun k=>rb_fill x hx (W.drewN k) (Below_drewN hbW k) q n lb arr s hse hbrW hrbW hsz hrdW hq hns)
  have HHIT:=Lib.hid (fun (w:World)=>rb_hit x hx w)
  rw [hW] at hcon
  have HX:=Lib.hid hx
  have HS:=Lib.hid hs
  have HW:=Lib.hid hW
  have HM0:=Lib.hid hM0
  have HZW:=Lib.hid hzW
  clear hx hb hrd hrb hbr hs hse hM0 hbrW hrbW hrdW hbW hzW hW
  go_enter Tryz.func150,Tryz.ntmps150
  go_wp2
  refine wp_loop_rounds 2 ?_
  rw [rounds_succ]
  go_wp2
  go_quiet (fail)
  go_wp2_with fail
  obtain ⟨n0,hn0⟩:∃ n0,n0=nq:=⟨_,rfl⟩
  rw [← hn0]
  clear hn0
  refine (hcon.out n0).mono ?_
  rintro e w1 ⟨rfl,m,m1,m2,m3,hbr1,hrb1,⟨n',hn',hrd1⟩,hm,hz⟩
  have hc1:=hbr1.cell
  have hf1:=hbr1.frozen
  have hsl:s.data.toList.length=s.size:=rfl
  have hb1:w1.cell? ⟨x.rb,0,none⟩=some (.int .u8 b.toNat):=by
    rw [hrb1.cell]
    rw [HS.out]
    obtain ⟨m',rfl⟩:∃ m',m=m' + 1:=⟨m - 1,by omega⟩
    simp [bytesV]
  have hr2:((0:Int) == (m:Int))=false:=by simp;omega
  have hr3:(m:Int) ≤ 4096:=by omega
  have hne1:¬ x.br=x.rb:=HX.out.ne4
  have hne2:¬ x.rb=x.br:=fun h=>HX.out.ne4 h.symm
  have HBR1:=Lib.hid hbr1
  have HRB1:=Lib.hid hrb1
  have HRD1:=Lib.hid hrd1
  have HM:=Lib.hid hm
  have HZ:=Lib.hid hz
  clear hbr1 hrb1 hrd1 hm hz hcon hc hf
  go_wp2
  rw [rounds_succ]
  go_wp2
  go_quiet (fail)
  go_wp2
  go_quiet (fail)
  go_wp2
  go_ret2
  have hw64:wrap64 (b.toNat:Int)=b.toNat:=by have:=UInt8.toNat_lt b;unfold wrap64;omega
  try simp only [hw64]
  have hbr2:=(HBR1.out.set 2 (.int .i64 1)).set 5 (.int .i64 b.toNat)
  have hM1:Mod x.Sio w w1:=(HM0.out.drewN n0).trans (by rw [HW.out];exact HM.out) (fun _ _ h=>h)
  have hM2:Mod x.Sio w ((w1.setCell ⟨x.br,2,none⟩ (.int .i64 1)).setCell ⟨x.br,5,none⟩ (.int .i64 b.toNat)):=
    (hM1.setCell (p:=⟨x.br,2,none⟩) (Or.inl (Or.inl rfl)) _).setCell (p:=⟨x.br,5,none⟩) (Or.inl (Or.inl rfl)) _
  have hun:un=(s.data.toList.take m).tail ++ (s.extract m s.size).data.toList:=by
    rw [extract_drop,HS.out]
    obtain ⟨m',rfl⟩:∃ m',m=m' + 1:=⟨m - 1,by omega⟩
    simp
  have hz1:w1.heap.size=w.heap.size:=HZ.out.trans (by rw [← HW.out];exact HZW.out)
  have hsl:s.data.toList.length=s.size:=rfl
  refine ⟨rfl,⟨1,m,n',b.toNat,_,s.extract m s.size,(s.data.toList.take m).tail,hbr2,(HRB1.out.set_ne hne2 _).set_ne hne2 _,?_,?_,m1,m2,?_,?_,hun,?_⟩,⟨hM2.os,hM2.tape,hM2.output,hM2.size,hM2.block⟩,by simp [World.setCell];exact hz1⟩
  · simp [bytesV,hsl];omega
  · have h:x.rd ≠ x.br:=fun h=>HX.out.ne5 h.symm
    exact (HRD1.out.set_ne h _).set_ne h _
  · simp [hsl];omega
  · intro j hj
    have hl:(s.data.toList.take m).length=m:=by rw [List.length_take,hsl];omega
    have hj':1 + j < (s.data.toList.take m).length:=by
      simp only [List.length_tail] at hj;omega
    rw [row_get _ _ _ hj']
    congr 3
    rw [List.getD,List.getD,List.getElem?_tail,Nat.add_comm 1 j]
  · have:(s.extract m s.size).size=s.size - m:=by simp
    omega
theorem rb_eof (x:Cx) (hx:x.Ok) (w:World) (hb:Below x.B x.W0 w) (q n:Nat) (lb:Int) (arr:Array Value) (s:ByteArray) (hs:s.data.toList=[])
    (hbr:Blk w x.br (bioC x q q .nilIface lb) 216) (hrb:Blk w x.rb arr 5) (hsz:arr.size=4096) (hrd:Blk w x.rd (rdC x s n) 52)
    (hq:q ≤ 4096) (hns:n + s.size ≤ 1000000000) :
    Calls Tryz.prog 150 #[.pointer (some ⟨x.br,0,none⟩)] w fun e w'=>e=.returned (.tuple #[.int .u8 0,endV x])∧BioIn x w' []∧Mod x.Sio w w'∧w'.heap.size=w.heap.size:=by
  have hc:=hbr.cell
  have hf:=hbr.frozen
  have hr1:((q:Int) == (q:Int))=true:=by simp
  have hse:s.toList.isEmpty=true:=by
    have:s.toList=s.data.toList:=by simp [ByteArray.toList_eq]
    rw [this,hs];rfl
  obtain ⟨W,hW⟩:∃ W,W=w.setCell ⟨x.br,6,none⟩ (.int .i64 (-1)):=⟨_,rfl⟩
  have hM0:Mod x.Sio w W:=by rw [hW];exact (Mod.refl x.Sio w).setCell (p:=⟨x.br,6,none⟩) (Or.inl (Or.inl rfl)) _
  have hbrW:Blk W x.br (bioC x q q .nilIface lb) 216:=by rw [hW];exact hbr.set 6 _
  have hrbW:Blk W x.rb arr 5:=by rw [hW];exact hrb.set_ne (fun h=>hx.ne4 h.symm) _
  have hrdW:Blk W x.rd (rdC x s n) 52:=by rw [hW];exact hrd.set_ne (fun h=>hx.ne5 h.symm) _
  have hbW:Below x.B x.W0 W:=Mod.below hb hb.size hM0 (fun i hi=>by rcases hi with h|h|h <;> subst h;exact hx.br;exact hx.rb;exact hx.rd)
  have hzW:W.heap.size=w.heap.size:=by rw [hW];simp [World.setCell]
  have hcon:=Lib.hid (fun k=>rb_fillEnd x hx (W.drewN k) (Below_drewN hbW k) q n lb s hse hbrW hrdW hq)
  rw [hW] at hcon
  have HX:=Lib.hid hx
  have HS:=Lib.hid hs
  have HW:=Lib.hid hW
  have HM0:=Lib.hid hM0
  have HZW:=Lib.hid hzW
  have HRB:=Lib.hid hrbW
  have HRD:=Lib.hid hrdW
  have hev:(∃ u t,endV x=.iface u t):=by unfold endV;split <;> exact ⟨_,_,rfl⟩
  obtain ⟨u,t,hev⟩:=hev
  have HEV:=Lib.hid hev
  clear hx hb hrd hrb hbr hs hse hM0 hbrW hrbW hrdW hbW hzW hW hev
  go_enter Tryz.func150,Tryz.ntmps150
  go_wp2
  refine wp_loop_rounds 2 ?_
  rw [rounds_succ]
  go_wp2
  go_quiet (fail)
  go_wp2_with fail
  obtain ⟨n0,hn0⟩:∃ n0,n0=nq:=⟨_,rfl⟩
  rw [← hn0]
  clear hn0
  refine (hcon.out n0).mono ?_
  rintro e w1 ⟨rfl,hbr1,hm,hz⟩
  rw [HEV.out] at hbr1
  have hc1:=hbr1.cell
  have hf1:=hbr1.frozen
  have hr2:((0:Int) == (0:Int))=true:=by simp
  have HBR1:=Lib.hid hbr1
  have HM:=Lib.hid hm
  have HZ:=Lib.hid hz
  clear hbr1 hm hz hcon hc hf
  go_wp2
  rw [rounds_succ]
  go_wp2
  go_quiet (fail)
  go_wp2
  go_ret2
  have hbr2:=HBR1.out.set 4 .nilIface
  have hM1:Mod x.Sio w w1:=(HM0.out.drewN n0).trans (by rw [HW.out];exact HM.out) (fun _ _ h=>Or.inl h)
  have hM2:Mod x.Sio w (w1.setCell ⟨x.br,4,none⟩ .nilIface):=hM1.setCell (p:=⟨x.br,4,none⟩) (Or.inl (Or.inl rfl)) _
  have hz1:w1.heap.size=w.heap.size:=HZ.out.trans (by rw [← HW.out];exact HZW.out)
  have hm:Mod (fun k=>k=x.br) (W.drewN n0) w1:=by rw [HW.out];exact HM.out
  have h1:x.rb ≠ x.br:=fun h=>HX.out.ne4 h.symm
  have h2:x.rd ≠ x.br:=fun h=>HX.out.ne5 h.symm
  have hrb1:Blk w1 x.rb arr 5:=(show Blk (W.drewN n0) _ _ _ from HRB.out).mod hm h1
  have hrd1:Blk w1 x.rd (rdC x s n) 52:=(show Blk (W.drewN n0) _ _ _ from HRD.out).mod hm h2
  refine ⟨congrArg (fun v=>Ending.returned (.tuple #[.int .u8 0,v])) HEV.out.symm,⟨0,0,n,lb,arr,s,[],hbr2,hrb1.set_ne h1 _,hsz,hrd1.set_ne h2 _,by omega,by omega,rfl,(fun j hj=>by simp at hj),by rw [HS.out];rfl,hns⟩,⟨hM2.os,hM2.tape,hM2.output,hM2.size,hM2.block⟩,by simp [World.setCell];exact hz1⟩
theorem readByte_some (x:Cx) (hx:x.Ok) (w:World) (hb:Below x.B x.W0 w) (b:UInt8) (un:Bs) (h:BioIn x w (b :: un)) :
    Calls Tryz.prog 150 #[.pointer (some ⟨x.br,0,none⟩)] w fun e w'=>e=.returned (.tuple #[.int .u8 b.toNat,.nilIface])∧BioIn x w' un∧Mod x.Sio w w'∧w'.heap.size=w.heap.size:=by
  obtain ⟨r,q,n,lb,arr,s,us,hbr,hrb,hsz,hrd,hrq,hq,hl,hel,hun,hns⟩:=h
  cases us with
  | nil=>
    have:r=q:=by simp at hl;omega
    subst this
    exact rb_miss x hx w hb r n lb arr s b un (by simpa using hun.symm) hbr hrb hsz hrd hq hns
  | cons b' us=>
    simp at hun
    obtain ⟨rfl,rfl⟩:=hun
    exact rb_hit x hx w r q n lb arr s b us hbr hrb hsz hrd (by simp at hl;omega) hq hl hel hns
theorem readByte_end (x:Cx) (hx:x.Ok) (w:World) (hb:Below x.B x.W0 w) (h:BioIn x w []) :
    Calls Tryz.prog 150 #[.pointer (some ⟨x.br,0,none⟩)] w fun e w'=>e=.returned (.tuple #[.int .u8 0,endV x])∧BioIn x w' []∧Mod x.Sio w w'∧w'.heap.size=w.heap.size:=by
  obtain ⟨r,q,n,lb,arr,s,us,hbr,hrb,hsz,hrd,hrq,hq,hl,hel,hun,hns⟩:=h
  have hun':=hun.symm
  simp only [List.append_eq_nil_iff] at hun'
  obtain ⟨rfl,hs⟩:=hun'
  have:r=q:=by simp at hl;omega
  subst this
  exact rb_eof x hx w hb r n lb arr s hs hbr hrb hsz hrd hq hns
end Go.Proofs.YtkjnockljapnbaaGreatDoor
namespace Go.Proofs.YtkjnockljapnbaaGreatDoor
open Go Go.RowKit
def ErrV (x:Cx) (v:Value):Option EK → Prop
  | none=>v=.nilIface
  | some .eof=>v=x.eofV
  | some .own=>v=ownV
  | some .syn=>∃ a,v=.iface 106 (.pointer (some a))
  | some .other=>∃ a:Addr,v=.iface 177 (.pointer (some a))∧x.B ≤ a.block
def BufAt (x:Cx) (w:World) (v:Value) (buf:Bs):Prop:=
  (v=.slice none 0 0∧buf=[]) ∨
  ∃ g cap arr,v=.slice (some ⟨g,0,none⟩) buf.length cap∧Blk w g arr 5∧arr.size=cap∧buf.length ≤ cap∧cap ≤ 9223372036854775807 ∧
    x.B ≤ g∧¬ x.S0 g∧∀ j,j < buf.length → arr[j]?=some (.int .u8 (buf.getD j 0).toNat)
def bufBlk:Value → Nat → Prop
  | .slice (some a) _ _,k=>k=a.block
  | _,_=>False
def PosAt (x:Cx) (v:DV) (rest:Bs):Prop:=
  ∃ pre,x.T=pre ++ rest∧v.off=pre.length∧v.line=lineOf pre∧(v.nb ≠ 10 → v.lstart=(pre.length:Int) + 1 - colOf pre)∧(v.nb=10 → v.lstart=(pre.length:Int) + 1)
structure RdS (x:Cx) (c:DC) (w:World) (v:DV) (rest:Bs) (e:Option EK) (buf:Bs):Prop where
  base:Below x.B x.W0 w
  dec:DecAt w x.d c v
  inp:∃ un,BioIn x w un∧((v.nb=-1∧rest=un) ∨ ∃ b:UInt8,v.nb=b.toNat∧rest=b :: un)
  pos:PosAt x v rest
  err:ErrV x v.err e
  fin:e=none ∨ (e=some (endE x.o.fails)∧rest=[])
  bf:BufAt x w v.bufv buf
structure DcOk (x:Cx) (c:DC):Prop where
  r:c.r=.iface 155 (.pointer (some ⟨x.br,0,none⟩))
  strict:c.strict=x.o.strict
structure ErrS (x:Cx) (c:DC) (w:World) (v:DV) (k:EK):Prop where
  base:Below x.B x.W0 w
  dec:DecAt w x.d c v
  err:ErrV x v.err (some k)
def Cx.S1 (x:Cx) (v:DV) (k:Nat):Prop:=x.S0 k ∨ bufBlk v.bufv k
structure Stp (x:Cx) (w:World) (v:DV) (w':World) (v':DV):Prop where
  mod:Mod (x.S1 v) w w'
  buf:∀ k,bufBlk v'.bufv k → bufBlk v.bufv k ∨ w.heap.size ≤ k
theorem Stp.refl (x:Cx) (w:World) (v:DV):Stp x w v w v:=⟨Mod.refl _ _,fun _ h=>Or.inl h⟩
theorem Stp.trans {x:Cx} {a b c:World} {u v t:DV} (h:Stp x a u b v) (k:Stp x b v c t):Stp x a u c t:=
  ⟨h.mod.trans k.mod (fun i hi hs=>by
      rcases hs with hs|hs
      · exact Or.inl hs
      · rcases h.buf i hs with h'|h'
        · exact Or.inr h'
        · omega),
    fun i hi=>by
      rcases k.buf i hi with h'|h'
      · exact h.buf i h'
      · exact Or.inr (Nat.le_trans h.mod.size h')⟩
theorem Cx.Ok.s0 {x:Cx} (hx:x.Ok) {k:Nat} (h:x.S0 k):x.B ≤ k:=by
  rcases h with h|h|h|h <;> subst h
  · exact hx.d
  · exact hx.br
  · exact hx.rb
  · exact hx.rd
theorem BufAt.mod {x:Cx} {w w':World} {v:Value} {buf:Bs} {S:Nat → Prop} (h:BufAt x w v buf) (hm:Mod S w w') (hS:∀ k,bufBlk v k → ¬ S k):BufAt x w' v buf:=by
  rcases h with h|⟨g,cap,arr,hv,hb,r⟩
  · exact Or.inl h
  · exact Or.inr ⟨g,cap,arr,hv,hb.mod hm (hS g (by rw [hv];rfl)),r⟩
theorem BufAt.notS0 {x:Cx} {w:World} {v:Value} {buf:Bs} (h:BufAt x w v buf) (k:Nat) (hk:bufBlk v k):¬ x.S0 k:=by
  rcases h with ⟨h,_⟩|⟨g,cap,arr,hv,_,_,_,_,_,hn,_⟩
  · rw [h] at hk;exact hk.elim
  · rw [hv] at hk
    have:k=g:=hk
    subst this
    exact hn
theorem RdS.step {x:Cx} (hx:x.Ok) {c:DC} {w w':World} {v v':DV} {rest rest':Bs} {e e':Option EK} {buf:Bs} (h:RdS x c w v rest e buf) (dec:DecAt w' x.d c v') (hm:Mod x.S0 w w')
    (inp:∃ un,BioIn x w' un∧((v'.nb=-1∧rest'=un) ∨ ∃ b:UInt8,v'.nb=b.toNat∧rest'=b :: un)) (pos:PosAt x v' rest') (err:ErrV x v'.err e') (fin:e'=none ∨ (e'=some (endE x.o.fails)∧rest'=[]))
    (hb:v'.bufv=v.bufv):RdS x c w' v' rest' e' buf:=
  ⟨Mod.below h.base h.base.size hm (fun _ hi=>hx.s0 hi),dec,inp,pos,err,fin,by rw [hb];exact h.bf.mod hm (fun k hk=>h.bf.notS0 k hk)⟩
theorem Mod.stp {x:Cx} {w w':World} {v v':DV} (hm:Mod x.S0 w w') (hb:v'.bufv=v.bufv):Stp x w v w' v':=
  ⟨hm.mono (fun _ _ h=>Or.inl h),fun k hk=>Or.inl (by rw [← hb];exact hk)⟩
theorem lineOf_snoc (pre:Bs) (b:UInt8):lineOf (pre ++ [b])=lineOf pre + if b=10 then 1 else 0:=by
  unfold lineOf
  rw [List.filter_append,List.length_append]
  by_cases h:b=10 <;> simp [h] <;> omega
theorem colOf_snoc (pre:Bs) (b:UInt8):colOf (pre ++ [b])=if b=10 then 1 else colOf pre + 1:=by
  unfold colOf
  rw [List.reverse_append]
  by_cases h:b=10 <;> simp [h] <;> omega
theorem lineOf_pos (l:Bs):1 ≤ lineOf l:=by unfold lineOf;omega
theorem lineOf_le (l:Bs):lineOf l ≤ l.length + 1:=by unfold lineOf;have:=List.length_filter_le (fun b:UInt8=>b == 10) l;omega
theorem colOf_le (l:Bs):colOf l ≤ l.length + 1:=by
  unfold colOf
  have:=List.takeWhile_prefix (fun b:UInt8=>b != 10) (l:=l.reverse)
  have:=this.length_le
  simp at this
  omega
theorem PosAt.got {x:Cx} {v:DV} {b:UInt8} {rest:Bs} (h:PosAt x v (b :: rest)) (hnb:v.nb=-1 ∨ v.nb=b.toNat) (v':DV) (_h1:v'.nb=-1) (h2:v'.off=v.off + 1)
    (h3:v'.line=if b=10 then v.line + 1 else v.line) (h4:v'.lstart=if b=10 then v.off + 1 else v.lstart):PosAt x v' rest:=by
  obtain ⟨pre,hT,ho,hl,hs,_⟩:=h
  refine ⟨pre ++ [b],by simp [hT],by simp [h2,ho],?_,fun _=>?_,fun hh=>by omega⟩
  · rw [h3,lineOf_snoc];by_cases hb:b=10 <;> simp [hb,hl]
  · rw [h4,colOf_snoc]
    by_cases hb:b=10
    · simp [hb,ho]
    · have hn:v.nb ≠ 10:=by
        rcases hnb with h|h
        · omega
        · intro h'
          apply hb
          have:(b.toNat:Int)=10:=by omega
          exact UInt8.toNat_inj.1 (by simpa using (show b.toNat=10 by omega))
      rw [if_neg hb,if_neg hb,hs hn]
      simp
      omega
theorem PosAt.put {x:Cx} {v:DV} {b:UInt8} {rest:Bs} (h:PosAt x v rest) (hsuf:(b :: rest) <:+ x.T) (hn:v.nb=-1) (v':DV) (h1:v'.nb=b.toNat) (h2:v'.off=v.off - 1)
    (h3:v'.line=if b=10 then v.line - 1 else v.line) (h4:v'.lstart=v.lstart):PosAt x v' (b :: rest):=by
  obtain ⟨pre,hT,ho,hl,hs,_⟩:=h
  obtain ⟨p0,hp0⟩:=hsuf
  have hpre:pre=p0 ++ [b]:=by
    have:pre ++ rest=(p0 ++ [b]) ++ rest:=by rw [← hT,← hp0];simp
    exact List.append_cancel_right this
  subst hpre
  refine ⟨p0,hp0.symm,by rw [h2,ho];simp,?_,fun hn'=>?_,fun hn'=>?_⟩
  · rw [h3,hl,lineOf_snoc];by_cases hb:b=10 <;> simp [hb] <;> omega
  · rw [h4,hs (by omega),colOf_snoc]
    have hb:b ≠ 10:=by
      intro hb;subst hb
      rw [h1] at hn'
      exact hn' rfl
    rw [if_neg hb]
    simp
    omega
  · have hb:b=10:=by
      rw [h1] at hn'
      exact UInt8.toNat_inj.1 (by simpa using (show b.toNat=10 by omega))
    rw [h4,hs (by omega),colOf_snoc,if_pos hb]
    simp
end Go.Proofs.YtkjnockljapnbaaGreatDoor
