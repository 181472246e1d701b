/- Part of the proof that laws.FnBalanced returns true for every argument (Rb2, In, Gc). No condition of its own. -/
import Derived.Test.YtkjnockljapnbaaGreatDoorO05
import Derived.Lib.IndexBytes
set_option linter.all false
set_option maxHeartbeats 8000000
set_option maxRecDepth 100000
namespace Go.Proofs.YtkjnockljapnbaaGreatDoor
open Go Go.RowKit
theorem extract_drop (s:ByteArray) (m:Nat):(s.extract m s.size).data.toList=s.data.toList.drop m:=Lib.extract_to_end s m
theorem bytesV_get (l:Bs) (j:Nat) (h:j < l.length):(bytesV l)[j]?=some (.int .u8 (l.getD j 0).toNat):=by
  simp [bytesV,List.getD,h]
theorem row_get (l:Bs) (r:List Value) (j:Nat) (h:j < l.length):((bytesV l ++ r).toArray:Array Value)[j]?=some (.int .u8 (l.getD j 0).toNat):=by
  rw [List.getElem?_toArray,List.getElem?_append_left (by simpa [bytesV] using h),bytesV_get l j h]
theorem rb_miss (x:Cx) (hx:x.Ok) (w:World) (hb:Below x.B x.W0 w) (q n:Nat) (lb:Int) (arr:Array Value) (s:ByteArray) (b:UInt8) (un:Bs) (hs:s.data.toList=b :: un)
    (hbr:Blk w x.br (bioC x q q .nilIface lb) 216) (hrb:Blk w x.rb arr 5) (hsz:arr.size=4096) (hrd:Blk w x.rd (rdC x s n) 52)
    (hq:q ≤ 4096) (hns:n + s.size ≤ 1000000000) :
    Calls Tryz.prog 150 #[.pointer (some ⟨x.br,0,none⟩)] w fun e w'=>e=.returned (.tuple #[.int .u8 b.toNat,.nilIface])∧BioIn x w' un∧Mod x.Sio w w'∧w'.heap.size=w.heap.size:=by
  have hc:=hbr.cell
  have hf:=hbr.frozen
  have hr1:((q:Int) == (q:Int))=true:=by simp
  have hse:s.toList.isEmpty=false:=by
    have:s.toList=s.data.toList:=by simp [ByteArray.toList_eq]
    rw [this,hs];rfl
  obtain ⟨W,hW⟩:∃ W,W=w.setCell ⟨x.br,6,none⟩ (.int .i64 (-1)):=⟨_,rfl⟩
  have hM0:Mod x.Sio w W:=by rw [hW];exact (Mod.refl x.Sio w).setCell (p:=⟨x.br,6,none⟩) (Or.inl (Or.inl rfl)) _
  have hbrW:Blk W x.br (bioC x q q .nilIface lb) 216:=by rw [hW];exact hbr.set 6 _
  have hrbW:Blk W x.rb arr 5:=by rw [hW];exact hrb.set_ne (fun h=>hx.ne4 h.symm) _
  have hrdW:Blk W x.rd (rdC x s n) 52:=by rw [hW];exact hrd.set_ne (fun h=>hx.ne5 h.symm) _
  have hbW:Below x.B x.W0 W:=Mod.below hb hb.size hM0 (fun i hi=>by rcases hi with h|h|h <;> subst h;exact hx.br;exact hx.rb;exact hx.rd)
  have hzW:W.heap.size=w.heap.size:=by rw [hW];simp [World.setCell]
  have hcon:=Lib.hid (fun k=>rb_fill x hx (W.drewN k) (Below_drewN hbW k) q n lb arr s hse hbrW hrbW hsz hrdW hq hns)
  have HHIT:=Lib.hid (fun (w:World)=>rb_hit x hx w)
  rw [hW] at hcon
  have HX:=Lib.hid hx
  have HS:=Lib.hid hs
  have HW:=Lib.hid hW
  have HM0:=Lib.hid hM0
  have HZW:=Lib.hid hzW
  clear hx hb hrd hrb hbr hs hse hM0 hbrW hrbW hrdW hbW hzW hW
  go_enter Tryz.func150,Tryz.ntmps150
  go_wp2
  refine wp_loop_rounds 2 ?_
  rw [rounds_succ]
  go_wp2
  go_quiet (fail)
  go_wp2_with fail
  obtain ⟨n0,hn0⟩:∃ n0,n0=nq:=⟨_,rfl⟩
  rw [← hn0]
  clear hn0
  refine (hcon.out n0).mono ?_
  rintro e w1 ⟨rfl,m,m1,m2,m3,hbr1,hrb1,⟨n',hn',hrd1⟩,hm,hz⟩
  have hc1:=hbr1.cell
  have hf1:=hbr1.frozen
  have hsl:s.data.toList.length=s.size:=rfl
  have hb1:w1.cell? ⟨x.rb,0,none⟩=some (.int .u8 b.toNat):=by
    rw [hrb1.cell]
    rw [HS.out]
    obtain ⟨m',rfl⟩:∃ m',m=m' + 1:=⟨m - 1,by omega⟩
    simp [bytesV]
  have hr2:((0:Int) == (m:Int))=false:=by simp;omega
  have hr3:(m:Int) ≤ 4096:=by omega
  have hne1:¬ x.br=x.rb:=HX.out.ne4
  have hne2:¬ x.rb=x.br:=fun h=>HX.out.ne4 h.symm
  have HBR1:=Lib.hid hbr1
  have HRB1:=Lib.hid hrb1
  have HRD1:=Lib.hid hrd1
  have HM:=Lib.hid hm
  have HZ:=Lib.hid hz
  clear hbr1 hrb1 hrd1 hm hz hcon hc hf
  go_wp2
  rw [rounds_succ]
  go_wp2
  go_quiet (fail)
  go_wp2
  go_quiet (fail)
  go_wp2
  go_ret2
  have hw64:wrap64 (b.toNat:Int)=b.toNat:=by have:=UInt8.toNat_lt b;unfold wrap64;omega
  try simp only [hw64]
  have hbr2:=(HBR1.out.set 2 (.int .i64 1)).set 5 (.int .i64 b.toNat)
  have hM1:Mod x.Sio w w1:=(HM0.out.drewN n0).trans (by rw [HW.out];exact HM.out) (fun _ _ h=>h)
  have hM2:Mod x.Sio w ((w1.setCell ⟨x.br,2,none⟩ (.int .i64 1)).setCell ⟨x.br,5,none⟩ (.int .i64 b.toNat)):=
    (hM1.setCell (p:=⟨x.br,2,none⟩) (Or.inl (Or.inl rfl)) _).setCell (p:=⟨x.br,5,none⟩) (Or.inl (Or.inl rfl)) _
  have hun:un=(s.data.toList.take m).tail ++ (s.extract m s.size).data.toList:=by
    rw [extract_drop,HS.out]
    obtain ⟨m',rfl⟩:∃ m',m=m' + 1:=⟨m - 1,by omega⟩
    simp
  have hz1:w1.heap.size=w.heap.size:=HZ.out.trans (by rw [← HW.out];exact HZW.out)
  have hsl:s.data.toList.length=s.size:=rfl
  refine ⟨rfl,⟨1,m,n',b.toNat,_,s.extract m s.size,(s.data.toList.take m).tail,hbr2,(HRB1.out.set_ne hne2 _).set_ne hne2 _,?_,?_,m1,m2,?_,?_,hun,?_⟩,⟨hM2.os,hM2.tape,hM2.output,hM2.size,hM2.block⟩,by simp [World.setCell];exact hz1⟩
  · simp [bytesV,hsl];omega
  · have h:x.rd ≠ x.br:=fun h=>HX.out.ne5 h.symm
    exact (HRD1.out.set_ne h _).set_ne h _
  · simp [hsl];omega
  · intro j hj
    have hl:(s.data.toList.take m).length=m:=by rw [List.length_take,hsl];omega
    have hj':1 + j < (s.data.toList.take m).length:=by
      simp only [List.length_tail] at hj;omega
    rw [row_get _ _ _ hj']
    congr 3
    rw [List.getD,List.getD,List.getElem?_tail,Nat.add_comm 1 j]
  · have:(s.extract m s.size).size=s.size - m:=by simp
    omega
theorem rb_eof (x:Cx) (hx:x.Ok) (w:World) (hb:Below x.B x.W0 w) (q n:Nat) (lb:Int) (arr:Array Value) (s:ByteArray) (hs:s.data.toList=[])
    (hbr:Blk w x.br (bioC x q q .nilIface lb) 216) (hrb:Blk w x.rb arr 5) (hsz:arr.size=4096) (hrd:Blk w x.rd (rdC x s n) 52)
    (hq:q ≤ 4096) (hns:n + s.size ≤ 1000000000) :
    Calls Tryz.prog 150 #[.pointer (some ⟨x.br,0,none⟩)] w fun e w'=>e=.returned (.tuple #[.int .u8 0,endV x])∧BioIn x w' []∧Mod x.Sio w w'∧w'.heap.size=w.heap.size:=by
  have hc:=hbr.cell
  have hf:=hbr.frozen
  have hr1:((q:Int) == (q:Int))=true:=by simp
  have hse:s.toList.isEmpty=true:=by
    have:s.toList=s.data.toList:=by simp [ByteArray.toList_eq]
    rw [this,hs];rfl
  obtain ⟨W,hW⟩:∃ W,W=w.setCell ⟨x.br,6,none⟩ (.int .i64 (-1)):=⟨_,rfl⟩
  have hM0:Mod x.Sio w W:=by rw [hW];exact (Mod.refl x.Sio w).setCell (p:=⟨x.br,6,none⟩) (Or.inl (Or.inl rfl)) _
  have hbrW:Blk W x.br (bioC x q q .nilIface lb) 216:=by rw [hW];exact hbr.set 6 _
  have hrbW:Blk W x.rb arr 5:=by rw [hW];exact hrb.set_ne (fun h=>hx.ne4 h.symm) _
  have hrdW:Blk W x.rd (rdC x s n) 52:=by rw [hW];exact hrd.set_ne (fun h=>hx.ne5 h.symm) _
  have hbW:Below x.B x.W0 W:=Mod.below hb hb.size hM0 (fun i hi=>by rcases hi with h|h|h <;> subst h;exact hx.br;exact hx.rb;exact hx.rd)
  have hzW:W.heap.size=w.heap.size:=by rw [hW];simp [World.setCell]
  have hcon:=Lib.hid (fun k=>rb_fillEnd x hx (W.drewN k) (Below_drewN hbW k) q n lb s hse hbrW hrdW hq)
  rw [hW] at hcon
  have HX:=Lib.hid hx
  have HS:=Lib.hid hs
  have HW:=Lib.hid hW
  have HM0:=Lib.hid hM0
  have HZW:=Lib.hid hzW
  have HRB:=Lib.hid hrbW
  have HRD:=Lib.hid hrdW
  have hev:(∃ u t,endV x=.iface u t):=by unfold endV;split <;> exact ⟨_,_,rfl⟩
  obtain ⟨u,t,hev⟩:=hev
  have HEV:=Lib.hid hev
  clear hx hb hrd hrb hbr hs hse hM0 hbrW hrbW hrdW hbW hzW hW hev
  go_enter Tryz.func150,Tryz.ntmps150
  go_wp2
  refine wp_loop_rounds 2 ?_
  rw [rounds_succ]
  go_wp2
  go_quiet (fail)
  go_wp2_with fail
  obtain ⟨n0,hn0⟩:∃ n0,n0=nq:=⟨_,rfl⟩
  rw [← hn0]
  clear hn0
  refine (hcon.out n0).mono ?_
  rintro e w1 ⟨rfl,hbr1,hm,hz⟩
  rw [HEV.out] at hbr1
  have hc1:=hbr1.cell
  have hf1:=hbr1.frozen
  have hr2:((0:Int) == (0:Int))=true:=by simp
  have HBR1:=Lib.hid hbr1
  have HM:=Lib.hid hm
  have HZ:=Lib.hid hz
  clear hbr1 hm hz hcon hc hf
  go_wp2
  rw [rounds_succ]
  go_wp2
  go_quiet (fail)
  go_wp2
  go_ret2
  have hbr2:=HBR1.out.set 4 .nilIface
  have hM1:Mod x.Sio w w1:=(HM0.out.drewN n0).trans (by rw [HW.out];exact HM.out) (fun _ _ h=>Or.inl h)
  have hM2:Mod x.Sio w (w1.setCell ⟨x.br,4,none⟩ .nilIface):=hM1.setCell (p:=⟨x.br,4,none⟩) (Or.inl (Or.inl rfl)) _
  have hz1:w1.heap.size=w.heap.size:=HZ.out.trans (by rw [← HW.out];exact HZW.out)
  have hm:Mod (fun k=>k=x.br) (W.drewN n0) w1:=by rw [HW.out];exact HM.out
  have h1:x.rb ≠ x.br:=fun h=>HX.out.ne4 h.symm
  have h2:x.rd ≠ x.br:=fun h=>HX.out.ne5 h.symm
  have hrb1:Blk w1 x.rb arr 5:=(show Blk (W.drewN n0) _ _ _ from HRB.out).mod hm h1
  have hrd1:Blk w1 x.rd (rdC x s n) 52:=(show Blk (W.drewN n0) _ _ _ from HRD.out).mod hm h2
  refine ⟨congrArg (fun v=>Ending.returned (.tuple #[.int .u8 0,v])) HEV.out.symm,⟨0,0,n,lb,arr,s,[],hbr2,hrb1.set_ne h1 _,hsz,hrd1.set_ne h2 _,by omega,by omega,rfl,(fun j hj=>by simp at hj),by rw [HS.out];rfl,hns⟩,⟨hM2.os,hM2.tape,hM2.output,hM2.size,hM2.block⟩,by simp [World.setCell];exact hz1⟩
theorem readByte_some (x:Cx) (hx:x.Ok) (w:World) (hb:Below x.B x.W0 w) (b:UInt8) (un:Bs) (h:BioIn x w (b :: un)) :
    Calls Tryz.prog 150 #[.pointer (some ⟨x.br,0,none⟩)] w fun e w'=>e=.returned (.tuple #[.int .u8 b.toNat,.nilIface])∧BioIn x w' un∧Mod x.Sio w w'∧w'.heap.size=w.heap.size:=by
  obtain ⟨r,q,n,lb,arr,s,us,hbr,hrb,hsz,hrd,hrq,hq,hl,hel,hun,hns⟩:=h
  cases us with
  | nil=>
    have:r=q:=by simp at hl;omega
    subst this
    exact rb_miss x hx w hb r n lb arr s b un (by simpa using hun.symm) hbr hrb hsz hrd hq hns
  | cons b' us=>
    simp at hun
    obtain ⟨rfl,rfl⟩:=hun
    exact rb_hit x hx w r q n lb arr s b us hbr hrb hsz hrd (by simp at hl;omega) hq hl hel hns
theorem readByte_end (x:Cx) (hx:x.Ok) (w:World) (hb:Below x.B x.W0 w) (h:BioIn x w []) :
    Calls Tryz.prog 150 #[.pointer (some ⟨x.br,0,none⟩)] w fun e w'=>e=.returned (.tuple #[.int .u8 0,endV x])∧BioIn x w' []∧Mod x.Sio w w'∧w'.heap.size=w.heap.size:=by
  obtain ⟨r,q,n,lb,arr,s,us,hbr,hrb,hsz,hrd,hrq,hq,hl,hel,hun,hns⟩:=h
  have hun':=hun.symm
  simp only [List.append_eq_nil_iff] at hun'
  obtain ⟨rfl,hs⟩:=hun'
  have:r=q:=by simp at hl;omega
  subst this
  exact rb_eof x hx w hb r n lb arr s hs hbr hrb hsz hrd hq hns
end Go.Proofs.YtkjnockljapnbaaGreatDoor
namespace Go.Proofs.YtkjnockljapnbaaGreatDoor
open Go Go.RowKit
def ErrV (x:Cx) (v:Value):Option EK → Prop
  | none=>v=.nilIface
  | some .eof=>v=x.eofV
  | some .own=>v=ownV
  | some .syn=>∃ a,v=.iface 106 (.pointer (some a))
  | some .other=>∃ a:Addr,v=.iface 177 (.pointer (some a))∧x.B ≤ a.block
def BufAt (x:Cx) (w:World) (v:Value) (buf:Bs):Prop:=
  (v=.slice none 0 0∧buf=[]) ∨
  ∃ g cap arr,v=.slice (some ⟨g,0,none⟩) buf.length cap∧Blk w g arr 5∧arr.size=cap∧buf.length ≤ cap∧cap ≤ 9223372036854775807 ∧
    x.B ≤ g∧¬ x.S0 g∧∀ j,j < buf.length → arr[j]?=some (.int .u8 (buf.getD j 0).toNat)
def bufBlk:Value → Nat → Prop
  | .slice (some a) _ _,k=>k=a.block
  | _,_=>False
def PosAt (x:Cx) (v:DV) (rest:Bs):Prop:=
  ∃ pre,x.T=pre ++ rest∧v.off=pre.length∧v.line=lineOf pre∧(v.nb ≠ 10 → v.lstart=(pre.length:Int) + 1 - colOf pre)∧(v.nb=10 → v.lstart=(pre.length:Int) + 1)
structure RdS (x:Cx) (c:DC) (w:World) (v:DV) (rest:Bs) (e:Option EK) (buf:Bs):Prop where
  base:Below x.B x.W0 w
  dec:DecAt w x.d c v
  inp:∃ un,BioIn x w un∧((v.nb=-1∧rest=un) ∨ ∃ b:UInt8,v.nb=b.toNat∧rest=b :: un)
  pos:PosAt x v rest
  err:ErrV x v.err e
  fin:e=none ∨ (e=some (endE x.o.fails)∧rest=[])
  bf:BufAt x w v.bufv buf
structure DcOk (x:Cx) (c:DC):Prop where
  r:c.r=.iface 155 (.pointer (some ⟨x.br,0,none⟩))
  strict:c.strict=x.o.strict
structure ErrS (x:Cx) (c:DC) (w:World) (v:DV) (k:EK):Prop where
  base:Below x.B x.W0 w
  dec:DecAt w x.d c v
  err:ErrV x v.err (some k)
def Cx.S1 (x:Cx) (v:DV) (k:Nat):Prop:=x.S0 k ∨ bufBlk v.bufv k
structure Stp (x:Cx) (w:World) (v:DV) (w':World) (v':DV):Prop where
  mod:Mod (x.S1 v) w w'
  buf:∀ k,bufBlk v'.bufv k → bufBlk v.bufv k ∨ w.heap.size ≤ k
theorem Stp.refl (x:Cx) (w:World) (v:DV):Stp x w v w v:=⟨Mod.refl _ _,fun _ h=>Or.inl h⟩
theorem Stp.trans {x:Cx} {a b c:World} {u v t:DV} (h:Stp x a u b v) (k:Stp x b v c t):Stp x a u c t:=
  ⟨h.mod.trans k.mod (fun i hi hs=>by
      rcases hs with hs|hs
      · exact Or.inl hs
      · rcases h.buf i hs with h'|h'
        · exact Or.inr h'
        · omega),
    fun i hi=>by
      rcases k.buf i hi with h'|h'
      · exact h.buf i h'
      · exact Or.inr (Nat.le_trans h.mod.size h')⟩
theorem Cx.Ok.s0 {x:Cx} (hx:x.Ok) {k:Nat} (h:x.S0 k):x.B ≤ k:=by
  rcases h with h|h|h|h <;> subst h
  · exact hx.d
  · exact hx.br
  · exact hx.rb
  · exact hx.rd
theorem BufAt.mod {x:Cx} {w w':World} {v:Value} {buf:Bs} {S:Nat → Prop} (h:BufAt x w v buf) (hm:Mod S w w') (hS:∀ k,bufBlk v k → ¬ S k):BufAt x w' v buf:=by
  rcases h with h|⟨g,cap,arr,hv,hb,r⟩
  · exact Or.inl h
  · exact Or.inr ⟨g,cap,arr,hv,hb.mod hm (hS g (by rw [hv];rfl)),r⟩
theorem BufAt.notS0 {x:Cx} {w:World} {v:Value} {buf:Bs} (h:BufAt x w v buf) (k:Nat) (hk:bufBlk v k):¬ x.S0 k:=by
  rcases h with ⟨h,_⟩|⟨g,cap,arr,hv,_,_,_,_,_,hn,_⟩
  · rw [h] at hk;exact hk.elim
  · rw [hv] at hk
    have:k=g:=hk
    subst this
    exact hn
theorem RdS.step {x:Cx} (hx:x.Ok) {c:DC} {w w':World} {v v':DV} {rest rest':Bs} {e e':Option EK} {buf:Bs} (h:RdS x c w v rest e buf) (dec:DecAt w' x.d c v') (hm:Mod x.S0 w w')
    (inp:∃ un,BioIn x w' un∧((v'.nb=-1∧rest'=un) ∨ ∃ b:UInt8,v'.nb=b.toNat∧rest'=b :: un)) (pos:PosAt x v' rest') (err:ErrV x v'.err e') (fin:e'=none ∨ (e'=some (endE x.o.fails)∧rest'=[]))
    (hb:v'.bufv=v.bufv):RdS x c w' v' rest' e' buf:=
  ⟨Mod.below h.base h.base.size hm (fun _ hi=>hx.s0 hi),dec,inp,pos,err,fin,by rw [hb];exact h.bf.mod hm (fun k hk=>h.bf.notS0 k hk)⟩
theorem Mod.stp {x:Cx} {w w':World} {v v':DV} (hm:Mod x.S0 w w') (hb:v'.bufv=v.bufv):Stp x w v w' v':=
  ⟨hm.mono (fun _ _ h=>Or.inl h),fun k hk=>Or.inl (by rw [← hb];exact hk)⟩
theorem lineOf_snoc (pre:Bs) (b:UInt8):lineOf (pre ++ [b])=lineOf pre + if b=10 then 1 else 0:=by
  unfold lineOf
  rw [List.filter_append,List.length_append]
  by_cases h:b=10 <;> simp [h] <;> omega
theorem colOf_snoc (pre:Bs) (b:UInt8):colOf (pre ++ [b])=if b=10 then 1 else colOf pre + 1:=by
  unfold colOf
  rw [List.reverse_append]
  by_cases h:b=10 <;> simp [h] <;> omega
theorem lineOf_pos (l:Bs):1 ≤ lineOf l:=by unfold lineOf;omega
theorem lineOf_le (l:Bs):lineOf l ≤ l.length + 1:=by unfold lineOf;have:=List.length_filter_le (fun b:UInt8=>b == 10) l;omega
theorem colOf_le (l:Bs):colOf l ≤ l.length + 1:=by
  unfold colOf
  have:=List.takeWhile_prefix (fun b:UInt8=>b != 10) (l:=l.reverse)
  have:=this.length_le
  simp at this
  omega
theorem PosAt.got {x:Cx} {v:DV} {b:UInt8} {rest:Bs} (h:PosAt x v (b :: rest)) (hnb:v.nb=-1 ∨ v.nb=b.toNat) (v':DV) (_h1:v'.nb=-1) (h2:v'.off=v.off + 1)
    (h3:v'.line=if b=10 then v.line + 1 else v.line) (h4:v'.lstart=if b=10 then v.off + 1 else v.lstart):PosAt x v' rest:=by
  obtain ⟨pre,hT,ho,hl,hs,_⟩:=h
  refine ⟨pre ++ [b],by simp [hT],by simp [h2,ho],?_,fun _=>?_,fun hh=>by omega⟩
  · rw [h3,lineOf_snoc];by_cases hb:b=10 <;> simp [hb,hl]
  · rw [h4,colOf_snoc]
    by_cases hb:b=10
    · simp [hb,ho]
    · have hn:v.nb ≠ 10:=by
        rcases hnb with h|h
        · omega
        · intro h'
          apply hb
          have:(b.toNat:Int)=10:=by omega
          exact UInt8.toNat_inj.1 (by simpa using (show b.toNat=10 by omega))
      rw [if_neg hb,if_neg hb,hs hn]
      simp
      omega
theorem PosAt.put {x:Cx} {v:DV} {b:UInt8} {rest:Bs} (h:PosAt x v rest) (hsuf:(b :: rest) <:+ x.T) (hn:v.nb=-1) (v':DV) (h1:v'.nb=b.toNat) (h2:v'.off=v.off - 1)
    (h3:v'.line=if b=10 then v.line - 1 else v.line) (h4:v'.lstart=v.lstart):PosAt x v' (b :: rest):=by
  obtain ⟨pre,hT,ho,hl,hs,_⟩:=h
  obtain ⟨p0,hp0⟩:=hsuf
  have hpre:pre=p0 ++ [b]:=by
    have:pre ++ rest=(p0 ++ [b]) ++ rest:=by rw [← hT,← hp0];simp
    exact List.append_cancel_right this
  subst hpre
  refine ⟨p0,hp0.symm,by rw [h2,ho];simp,?_,fun hn'=>?_,fun hn'=>?_⟩
  · rw [h3,hl,lineOf_snoc];by_cases hb:b=10 <;> simp [hb] <;> omega
  · rw [h4,hs (by omega),colOf_snoc]
    have hb:b ≠ 10:=by
      intro hb;subst hb
      rw [h1] at hn'
      exact hn' rfl
    rw [if_neg hb]
    simp
    omega
  · have hb:b=10:=by
      rw [h1] at hn'
      exact UInt8.toNat_inj.1 (by simpa using (show b.toNat=10 by omega))
    rw [h4,hs (by omega),colOf_snoc,if_pos hb]
    simp
end Go.Proofs.YtkjnockljapnbaaGreatDoor
namespace Go.Proofs.YtkjnockljapnbaaGreatDoor
open Go Go.RowKit
theorem rbMethod (a:Addr) (w:World):(method 394 155 (.pointer (some a)) "ReadByte").run Tryz.prog w=.ok (150,.pointer (some a)) w:=by kernel_rfl
theorem rbEnter (args:Array Value) (w:World):(callFunc 150 args).run Tryz.prog w=.ok (.enter 150 args) w:=enters_of Tryz.func150 (by kernel_rfl) rfl args w
theorem synErr (d:Nat) (c:DC) (v:DV) (w:World) (h:DecAt w d c v) (msg:ByteArray) :
    Calls Tryz.prog 24 #[.pointer (some ⟨d,0,none⟩),.string msg] w fun e w'=>e=.returned (.iface 106 (.pointer (some ⟨w.heap.size,0,none⟩))) ∧
      w'=w.alloc (.cells #[.string msg,.int .i64 v.line] 136):=by
  have hc:=h.cell
  have hf:=h.frozen
  clear h
  go_enter Tryz.func24,Tryz.ntmps24
  go_wp2
  go_ret
  exact ⟨rfl,rfl⟩
theorem PosAt.bounds {x:Cx} (hx:x.Ok) {v:DV} {rest:Bs} (h:PosAt x v rest):0 ≤ v.off∧v.off ≤ 1000000000∧1 ≤ v.line∧v.line ≤ 1000000001:=by
  obtain ⟨pre,hT,ho,hl,_⟩:=h
  have:=hx.len
  have h1:pre.length ≤ x.T.length:=by rw [hT];simp
  have h2:=lineOf_pos pre
  have h3:=lineOf_le pre
  omega
theorem getc_nb (x:Cx) (hx:x.Ok) (c:DC) (w:World) (v:DV) (b:UInt8) (rest un:Bs) (buf:Bs) (h:RdS x c w v (b :: rest) none buf) (hb:BioIn x w un) (hn:v.nb=b.toNat) (hr:rest=un) :
    Calls Tryz.prog 35 #[.pointer (some ⟨x.d,0,none⟩)] w fun e w'=>e=.returned (.tuple #[.int .u8 b.toNat,.bool true]) ∧
      ∃ v',RdS x c w' v' rest none buf∧v'.nb=-1∧v'.bufv=v.bufv∧Mod x.S0 w w'∧w'.heap.size=w.heap.size:=by
  have hc:=h.dec.cell
  have hf:=h.dec.frozen
  obtain ⟨o1,o2,l1,l2⟩:=h.pos.bounds hx
  have he:v.err=.nilIface:=h.err
  have hb1:=UInt8.toNat_lt b
  have hw:(b.toNat:Int) % 256=b.toNat:=by omega
  have h0:(0:Int) ≤ (b.toNat:Int):=by omega
  have HX:=Lib.hid hx
  have HS:=Lib.hid h
  have HB:=Lib.hid hb
  have HN:=Lib.hid hn
  have HR:=Lib.hid hr
  obtain ⟨sb,sl,snb,serr,sline,sls,soff⟩:=v
  simp only at he hn o1 o2 l1 l2
  subst he hn
  clear h hx hb hr
  by_cases h10:b=10
  · subst h10
    go_enter Tryz.func35,Tryz.ntmps35
    go_wp2
    go_ret2
    have hd:=(((HS.out.dec.set 18 (.int .i64 (-1))).set 21 (.int .i64 (sline + 1))).set 22 (.int .i64 (soff + 1))).set 23 (.int .i64 (soff + 1))
    have hm:=((((Mod.refl (fun k=>k=x.d) w).setCell (p:=⟨x.d,18,none⟩) (Or.inl rfl) (.int .i64 (-1))).setCell (p:=⟨x.d,21,none⟩) (Or.inl rfl) (.int .i64 (sline + 1))).setCell (p:=⟨x.d,22,none⟩) (Or.inl rfl) (.int .i64 (soff + 1))).setCell (p:=⟨x.d,23,none⟩) (Or.inl rfl) (.int .i64 (soff + 1))
    have hm0:Mod x.S0 w _:=hm.mono (fun _ _ h=>Or.inl h)
    refine ⟨rfl,⟨sb,sl,-1,.nilIface,sline + 1,soff + 1,soff + 1⟩,HS.out.step HX.out hd hm0 ⟨un,HB.out.mod hm (fun h=>HX.out.ne1 h.symm) (fun h=>HX.out.ne2 h.symm) (fun h=>HX.out.ne3 h.symm),Or.inl ⟨rfl,HR.out⟩⟩ ?_ rfl (Or.inl rfl) rfl,rfl,rfl,hm0,by simp [World.setCell]⟩
    exact HS.out.pos.got (Or.inr rfl) _ rfl rfl (by simp) (by simp)
  · have hb10:((b.toNat:Int) == 10)=false:=by
      simp
      intro h
      exact h10 (UInt8.toNat_inj.1 (by simpa using (show b.toNat=10 by omega)))
    go_enter Tryz.func35,Tryz.ntmps35
    go_wp2
    go_ret2
    have hd:=(HS.out.dec.set 18 (.int .i64 (-1))).set 23 (.int .i64 (soff + 1))
    have hm:=((Mod.refl (fun k=>k=x.d) w).setCell (p:=⟨x.d,18,none⟩) (Or.inl rfl) (.int .i64 (-1))).setCell (p:=⟨x.d,23,none⟩) (Or.inl rfl) (.int .i64 (soff + 1))
    have hm0:Mod x.S0 w _:=hm.mono (fun _ _ h=>Or.inl h)
    refine ⟨rfl,⟨sb,sl,-1,.nilIface,sline,sls,soff + 1⟩,HS.out.step HX.out hd hm0 ⟨un,HB.out.mod hm (fun h=>HX.out.ne1 h.symm) (fun h=>HX.out.ne2 h.symm) (fun h=>HX.out.ne3 h.symm),Or.inl ⟨rfl,HR.out⟩⟩ ?_ rfl (Or.inl rfl) rfl,rfl,rfl,hm0,by simp [World.setCell]⟩
    exact HS.out.pos.got (Or.inr rfl) _ rfl rfl (by simp [h10]) (by simp [h10])
theorem u8ne10 {b:UInt8} (h:b ≠ 10):((b.toNat:Int) == 10)=false:=by
  simp
  intro h'
  exact h (UInt8.toNat_inj.1 (by simpa using (show b.toNat=10 by omega)))
theorem getc_rd (x:Cx) (hx:x.Ok) (c:DC) (hdc:DcOk x c) (w:World) (v:DV) (b:UInt8) (rest:Bs) (buf:Bs) (h:RdS x c w v (b :: rest) none buf) (hb:BioIn x w (b :: rest)) (hn:v.nb=-1) :
    Calls Tryz.prog 35 #[.pointer (some ⟨x.d,0,none⟩)] w fun e w'=>e=.returned (.tuple #[.int .u8 b.toNat,.bool true]) ∧
      ∃ v',RdS x c w' v' rest none buf∧v'.nb=-1∧v'.bufv=v.bufv∧Mod x.S0 w w'∧w'.heap.size=w.heap.size:=by
  have hc:=h.dec.cell
  have hf:=h.dec.frozen
  obtain ⟨o1,o2,l1,l2⟩:=h.pos.bounds hx
  have he:v.err=.nilIface:=h.err
  have hcr:=hdc.r
  have hcon:=Lib.hid (readByte_some x hx w h.base b rest hb)
  have HX:=Lib.hid hx
  have HS:=Lib.hid h
  obtain ⟨sb,sl,snb,serr,sline,sls,soff⟩:=v
  simp only at he hn o1 o2 l1 l2
  subst he hn
  have hmeth:=fun a w=>rbMethod a w
  have hent:=fun a w=>rbEnter a w
  clear h hx hb hdc
  by_cases h10:b=10
  · subst h10
    go_enter Tryz.func35,Tryz.ntmps35
    go_wp2_with fail
    refine hcon.out.mono ?_
    rintro e w1 ⟨rfl,hb1,hm1,hz1⟩
    have hd1:DecAt w1 x.d c ⟨sb,sl,-1,.nilIface,sline,sls,soff⟩:=HS.out.dec.mod hm1 (by intro h;rcases h with h|h|h;exact HX.out.ne1 h;exact HX.out.ne2 h;exact HX.out.ne3 h)
    have hc1:=hd1.cell
    have hf1:=hd1.frozen
    have HD1:=Lib.hid hd1
    have HB1:=Lib.hid hb1
    have HM1:=Lib.hid hm1
    have HZ1:=Lib.hid hz1
    clear hd1 hb1 hm1 hz1 hc hf hcon
    go_wp2
    go_ret2
    have hd:=(((HD1.out.set 20 .nilIface).set 21 (.int .i64 (sline + 1))).set 22 (.int .i64 (soff + 1))).set 23 (.int .i64 (soff + 1))
    have hm:=((((Mod.refl (fun k=>k=x.d) w1).setCell (p:=⟨x.d,20,none⟩) (Or.inl rfl) .nilIface).setCell (p:=⟨x.d,21,none⟩) (Or.inl rfl) (.int .i64 (sline + 1))).setCell (p:=⟨x.d,22,none⟩) (Or.inl rfl) (.int .i64 (soff + 1))).setCell (p:=⟨x.d,23,none⟩) (Or.inl rfl) (.int .i64 (soff + 1))
    have hm0:Mod x.S0 w _:=(HM1.out.mono (fun _ _ h=>Or.inr h)).trans (hm.mono (fun _ _ h=>Or.inl h):Mod x.S0 w1 _) (fun _ _ h=>h)
    refine ⟨rfl,⟨sb,sl,-1,.nilIface,sline + 1,soff + 1,soff + 1⟩,HS.out.step HX.out hd hm0 ⟨rest,HB1.out.mod hm (fun h=>HX.out.ne1 h.symm) (fun h=>HX.out.ne2 h.symm) (fun h=>HX.out.ne3 h.symm),Or.inl ⟨rfl,rfl⟩⟩ ?_ rfl (Or.inl rfl) rfl,rfl,rfl,hm0,by simp [World.setCell];exact HZ1.out⟩
    exact HS.out.pos.got (Or.inl rfl) _ rfl rfl (by simp) (by simp)
  · have hb10:=u8ne10 h10
    go_enter Tryz.func35,Tryz.ntmps35
    go_wp2_with fail
    refine hcon.out.mono ?_
    rintro e w1 ⟨rfl,hb1,hm1,hz1⟩
    have hd1:DecAt w1 x.d c ⟨sb,sl,-1,.nilIface,sline,sls,soff⟩:=HS.out.dec.mod hm1 (by intro h;rcases h with h|h|h;exact HX.out.ne1 h;exact HX.out.ne2 h;exact HX.out.ne3 h)
    have hc1:=hd1.cell
    have hf1:=hd1.frozen
    have HD1:=Lib.hid hd1
    have HB1:=Lib.hid hb1
    have HM1:=Lib.hid hm1
    have HZ1:=Lib.hid hz1
    clear hd1 hb1 hm1 hz1 hc hf hcon
    go_wp2
    go_ret2
    have hd:=(HD1.out.set 20 .nilIface).set 23 (.int .i64 (soff + 1))
    have hm:=((Mod.refl (fun k=>k=x.d) w1).setCell (p:=⟨x.d,20,none⟩) (Or.inl rfl) .nilIface).setCell (p:=⟨x.d,23,none⟩) (Or.inl rfl) (.int .i64 (soff + 1))
    have hm0:Mod x.S0 w _:=(HM1.out.mono (fun _ _ h=>Or.inr h)).trans (hm.mono (fun _ _ h=>Or.inl h):Mod x.S0 w1 _) (fun _ _ h=>h)
    refine ⟨rfl,⟨sb,sl,-1,.nilIface,sline,sls,soff + 1⟩,HS.out.step HX.out hd hm0 ⟨rest,HB1.out.mod hm (fun h=>HX.out.ne1 h.symm) (fun h=>HX.out.ne2 h.symm) (fun h=>HX.out.ne3 h.symm),Or.inl ⟨rfl,rfl⟩⟩ ?_ rfl (Or.inl rfl) rfl,rfl,rfl,hm0,by simp [World.setCell];exact HZ1.out⟩
    exact HS.out.pos.got (Or.inl rfl) _ rfl rfl (by simp [h10]) (by simp [h10])
theorem endV_err (x:Cx):ErrV x (endV x) (some (endE x.o.fails)):=by
  unfold endV endE
  split <;> exact rfl
theorem getc_end (x:Cx) (hx:x.Ok) (c:DC) (hdc:DcOk x c) (w:World) (v:DV) (buf:Bs) (h:RdS x c w v [] none buf) :
    Calls Tryz.prog 35 #[.pointer (some ⟨x.d,0,none⟩)] w fun e w'=>e=.returned (.tuple #[.int .u8 0,.bool false]) ∧
      ∃ v',RdS x c w' v' [] (some (endE x.o.fails)) buf∧v'.nb=-1∧v'.bufv=v.bufv∧Mod x.S0 w w'∧w'.heap.size=w.heap.size:=by
  obtain ⟨un,hb,hun⟩:=h.inp
  have hun':v.nb=-1∧un=[]:=by
    rcases hun with ⟨h1,h2⟩|⟨b,_,h2⟩
    · exact ⟨h1,h2.symm⟩
    · cases h2
  obtain ⟨hn,rfl⟩:=hun'
  clear hun
  have hc:=h.dec.cell
  have hf:=h.dec.frozen
  have he:v.err=.nilIface:=h.err
  have hcr:=hdc.r
  have hev:(∃ u t,endV x=.iface u t):=by unfold endV;split <;> exact ⟨_,_,rfl⟩
  obtain ⟨u,t,hev⟩:=hev
  have HEV:=Lib.hid hev
  have hcon:=readByte_end x hx w h.base hb
  rw [hev] at hcon
  have hcon:=Lib.hid hcon
  have HX:=Lib.hid hx
  have HS:=Lib.hid h
  obtain ⟨sb,sl,snb,serr,sline,sls,soff⟩:=v
  simp only at he hn
  subst he hn
  have hmeth:=fun a w=>rbMethod a w
  have hent:=fun a w=>rbEnter a w
  clear h hx hb hdc hev
  go_enter Tryz.func35,Tryz.ntmps35
  go_wp2_with fail
  refine hcon.out.mono ?_
  rintro e w1 ⟨rfl,hb1,hm1,hz1⟩
  have hd1:DecAt w1 x.d c ⟨sb,sl,-1,.nilIface,sline,sls,soff⟩:=HS.out.dec.mod hm1 (by intro h;rcases h with h|h|h;exact HX.out.ne1 h;exact HX.out.ne2 h;exact HX.out.ne3 h)
  have hc1:=hd1.cell
  have hf1:=hd1.frozen
  have HD1:=Lib.hid hd1
  have HB1:=Lib.hid hb1
  have HM1:=Lib.hid hm1
  have HZ1:=Lib.hid hz1
  clear hd1 hb1 hm1 hz1 hc hf hcon
  go_wp2
  go_ret2
  have hd:=HD1.out.set 20 (.iface u t)
  have hm:=(Mod.refl (fun k=>k=x.d) w1).setCell (p:=⟨x.d,20,none⟩) (Or.inl rfl) (.iface u t)
  have hm0:Mod x.S0 w _:=(HM1.out.mono (fun _ _ h=>Or.inr h)).trans (hm.mono (fun _ _ h=>Or.inl h):Mod x.S0 w1 _) (fun _ _ h=>h)
  refine ⟨rfl,⟨sb,sl,-1,.iface u t,sline,sls,soff⟩,HS.out.step HX.out hd hm0 ⟨[],HB1.out.mod hm (fun h=>HX.out.ne1 h.symm) (fun h=>HX.out.ne2 h.symm) (fun h=>HX.out.ne3 h.symm),Or.inl ⟨rfl,rfl⟩⟩ HS.out.pos (by rw [← HEV.out];exact endV_err x) (Or.inr ⟨rfl,rfl⟩) rfl,rfl,rfl,hm0,by simp [World.setCell];exact HZ1.out⟩
theorem getc_err (c:DC) (d:Nat) (w:World) (v:DV) (h:DecAt w d c v) (u:TypeId) (t:Value) (he:v.err=.iface u t) :
    Calls Tryz.prog 35 #[.pointer (some ⟨d,0,none⟩)] w fun e w'=>e=.returned (.tuple #[.int .u8 0,.bool false])∧w=w':=by
  have hc:=h.cell
  have hf:=h.frozen
  clear h
  go_enter Tryz.func35,Tryz.ntmps35
  go_wp2
  go_ret2
  exact ⟨rfl,rfl⟩
end Go.Proofs.YtkjnockljapnbaaGreatDoor
