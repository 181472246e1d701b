/- Part of the proof that laws.FnBeginning, laws.FnPlaces returns true for every argument (Gc, Gd, Buf). No condition of its own. -/
import Derived.Test.YtkjnockljapnbaaGreatDoorK07
import Derived.Deep.LoopGhost
import Derived.LaidEql
set_option linter.all false
set_option maxHeartbeats 8000000
set_option maxRecDepth 100000
namespace Go.Proofs.YtkjnockljapnbaaGreatDoor
open Go Go.RowKit
theorem rbMethod (a:Addr) (w:World):(method 394 155 (.pointer (some a)) "ReadByte").run Tryz.prog w=.ok (150,.pointer (some a)) w:=by kernel_rfl
theorem rbEnter (args:Array Value) (w:World):(callFunc 150 args).run Tryz.prog w=.ok (.enter 150 args) w:=enters_of Tryz.func150 (by kernel_rfl) rfl args w
theorem synErr (d:Nat) (c:DC) (v:DV) (w:World) (h:DecAt w d c v) (msg:ByteArray) :
    Calls Tryz.prog 24 #[.pointer (some ⟨d,0,none⟩),.string msg] w fun e w'=>e=.returned (.iface 106 (.pointer (some ⟨w.heap.size,0,none⟩))) ∧
      w'=w.alloc (.cells #[.string msg,.int .i64 v.line] 136):=by
  have hc:=h.cell
  have hf:=h.frozen
  clear h
  go_enter Tryz.func24,Tryz.ntmps24
  go_wp2
  go_ret
  exact ⟨rfl,rfl⟩
theorem PosAt.bounds {x:Cx} (hx:x.Ok) {v:DV} {rest:Bs} (h:PosAt x v rest):0 ≤ v.off∧v.off ≤ 1000000000∧1 ≤ v.line∧v.line ≤ 1000000001:=by
  obtain ⟨pre,hT,ho,hl,_⟩:=h
  have:=hx.len
  have h1:pre.length ≤ x.T.length:=by rw [hT];simp
  have h2:=lineOf_pos pre
  have h3:=lineOf_le pre
  omega
theorem getc_nb (x:Cx) (hx:x.Ok) (c:DC) (w:World) (v:DV) (b:UInt8) (rest un:Bs) (buf:Bs) (h:RdS x c w v (b :: rest) none buf) (hb:BioIn x w un) (hn:v.nb=b.toNat) (hr:rest=un) :
    Calls Tryz.prog 35 #[.pointer (some ⟨x.d,0,none⟩)] w fun e w'=>e=.returned (.tuple #[.int .u8 b.toNat,.bool true]) ∧
      ∃ v',RdS x c w' v' rest none buf∧v'.nb=-1∧v'.bufv=v.bufv∧Mod x.S0 w w'∧w'.heap.size=w.heap.size:=by
  have hc:=h.dec.cell
  have hf:=h.dec.frozen
  obtain ⟨o1,o2,l1,l2⟩:=h.pos.bounds hx
  have he:v.err=.nilIface:=h.err
  have hb1:=UInt8.toNat_lt b
  have hw:(b.toNat:Int) % 256=b.toNat:=by omega
  have h0:(0:Int) ≤ (b.toNat:Int):=by omega
  have HX:=Lib.hid hx
  have HS:=Lib.hid h
  have HB:=Lib.hid hb
  have HN:=Lib.hid hn
  have HR:=Lib.hid hr
  obtain ⟨sb,sl,snb,serr,sline,sls,soff⟩:=v
  simp only at he hn o1 o2 l1 l2
  subst he hn
  clear h hx hb hr
  by_cases h10:b=10
  · subst h10
    go_enter Tryz.func35,Tryz.ntmps35
    go_wp2
    go_ret2
    have hd:=(((HS.out.dec.set 18 (.int .i64 (-1))).set 21 (.int .i64 (sline + 1))).set 22 (.int .i64 (soff + 1))).set 23 (.int .i64 (soff + 1))
    have hm:=((((Mod.refl (fun k=>k=x.d) w).setCell (p:=⟨x.d,18,none⟩) (Or.inl rfl) (.int .i64 (-1))).setCell (p:=⟨x.d,21,none⟩) (Or.inl rfl) (.int .i64 (sline + 1))).setCell (p:=⟨x.d,22,none⟩) (Or.inl rfl) (.int .i64 (soff + 1))).setCell (p:=⟨x.d,23,none⟩) (Or.inl rfl) (.int .i64 (soff + 1))
    have hm0:Mod x.S0 w _:=hm.mono (fun _ _ h=>Or.inl h)
    refine ⟨rfl,⟨sb,sl,-1,.nilIface,sline + 1,soff + 1,soff + 1⟩,HS.out.step HX.out hd hm0 ⟨un,HB.out.mod hm (fun h=>HX.out.ne1 h.symm) (fun h=>HX.out.ne2 h.symm) (fun h=>HX.out.ne3 h.symm),Or.inl ⟨rfl,HR.out⟩⟩ ?_ rfl (Or.inl rfl) rfl,rfl,rfl,hm0,by simp [World.setCell]⟩
    exact HS.out.pos.got (Or.inr rfl) _ rfl rfl (by simp) (by simp)
  · have hb10:((b.toNat:Int) == 10)=false:=by
      simp
      intro h
      exact h10 (UInt8.toNat_inj.1 (by simpa using (show b.toNat=10 by omega)))
    go_enter Tryz.func35,Tryz.ntmps35
    go_wp2
    go_ret2
    have hd:=(HS.out.dec.set 18 (.int .i64 (-1))).set 23 (.int .i64 (soff + 1))
    have hm:=((Mod.refl (fun k=>k=x.d) w).setCell (p:=⟨x.d,18,none⟩) (Or.inl rfl) (.int .i64 (-1))).setCell (p:=⟨x.d,23,none⟩) (Or.inl rfl) (.int .i64 (soff + 1))
    have hm0:Mod x.S0 w _:=hm.mono (fun _ _ h=>Or.inl h)
    refine ⟨rfl,⟨sb,sl,-1,.nilIface,sline,sls,soff + 1⟩,HS.out.step HX.out hd hm0 ⟨un,HB.out.mod hm (fun h=>HX.out.ne1 h.symm) (fun h=>HX.out.ne2 h.symm) (fun h=>HX.out.ne3 h.symm),Or.inl ⟨rfl,HR.out⟩⟩ ?_ rfl (Or.inl rfl) rfl,rfl,rfl,hm0,by simp [World.setCell]⟩
    exact HS.out.pos.got (Or.inr rfl) _ rfl rfl (by simp [h10]) (by simp [h10])
theorem u8ne10 {b:UInt8} (h:b ≠ 10):((b.toNat:Int) == 10)=false:=by
  simp
  intro h'
  exact h (UInt8.toNat_inj.1 (by simpa using (show b.toNat=10 by omega)))
theorem getc_rd (x:Cx) (hx:x.Ok) (c:DC) (hdc:DcOk x c) (w:World) (v:DV) (b:UInt8) (rest:Bs) (buf:Bs) (h:RdS x c w v (b :: rest) none buf) (hb:BioIn x w (b :: rest)) (hn:v.nb=-1) :
    Calls Tryz.prog 35 #[.pointer (some ⟨x.d,0,none⟩)] w fun e w'=>e=.returned (.tuple #[.int .u8 b.toNat,.bool true]) ∧
      ∃ v',RdS x c w' v' rest none buf∧v'.nb=-1∧v'.bufv=v.bufv∧Mod x.S0 w w'∧w'.heap.size=w.heap.size:=by
  have hc:=h.dec.cell
  have hf:=h.dec.frozen
  obtain ⟨o1,o2,l1,l2⟩:=h.pos.bounds hx
  have he:v.err=.nilIface:=h.err
  have hcr:=hdc.r
  have hcon:=Lib.hid (readByte_some x hx w h.base b rest hb)
  have HX:=Lib.hid hx
  have HS:=Lib.hid h
  obtain ⟨sb,sl,snb,serr,sline,sls,soff⟩:=v
  simp only at he hn o1 o2 l1 l2
  subst he hn
  have hmeth:=fun a w=>rbMethod a w
  have hent:=fun a w=>rbEnter a w
  clear h hx hb hdc
  by_cases h10:b=10
  · subst h10
    go_enter Tryz.func35,Tryz.ntmps35
    go_wp2_with fail
    refine hcon.out.mono ?_
    rintro e w1 ⟨rfl,hb1,hm1,hz1⟩
    have hd1:DecAt w1 x.d c ⟨sb,sl,-1,.nilIface,sline,sls,soff⟩:=HS.out.dec.mod hm1 (by intro h;rcases h with h|h|h;exact HX.out.ne1 h;exact HX.out.ne2 h;exact HX.out.ne3 h)
    have hc1:=hd1.cell
    have hf1:=hd1.frozen
    have HD1:=Lib.hid hd1
    have HB1:=Lib.hid hb1
    have HM1:=Lib.hid hm1
    have HZ1:=Lib.hid hz1
    clear hd1 hb1 hm1 hz1 hc hf hcon
    go_wp2
    go_ret2
    have hd:=(((HD1.out.set 20 .nilIface).set 21 (.int .i64 (sline + 1))).set 22 (.int .i64 (soff + 1))).set 23 (.int .i64 (soff + 1))
    have hm:=((((Mod.refl (fun k=>k=x.d) w1).setCell (p:=⟨x.d,20,none⟩) (Or.inl rfl) .nilIface).setCell (p:=⟨x.d,21,none⟩) (Or.inl rfl) (.int .i64 (sline + 1))).setCell (p:=⟨x.d,22,none⟩) (Or.inl rfl) (.int .i64 (soff + 1))).setCell (p:=⟨x.d,23,none⟩) (Or.inl rfl) (.int .i64 (soff + 1))
    have hm0:Mod x.S0 w _:=(HM1.out.mono (fun _ _ h=>Or.inr h)).trans (hm.mono (fun _ _ h=>Or.inl h):Mod x.S0 w1 _) (fun _ _ h=>h)
    refine ⟨rfl,⟨sb,sl,-1,.nilIface,sline + 1,soff + 1,soff + 1⟩,HS.out.step HX.out hd hm0 ⟨rest,HB1.out.mod hm (fun h=>HX.out.ne1 h.symm) (fun h=>HX.out.ne2 h.symm) (fun h=>HX.out.ne3 h.symm),Or.inl ⟨rfl,rfl⟩⟩ ?_ rfl (Or.inl rfl) rfl,rfl,rfl,hm0,by simp [World.setCell];exact HZ1.out⟩
    exact HS.out.pos.got (Or.inl rfl) _ rfl rfl (by simp) (by simp)
  · have hb10:=u8ne10 h10
    go_enter Tryz.func35,Tryz.ntmps35
    go_wp2_with fail
    refine hcon.out.mono ?_
    rintro e w1 ⟨rfl,hb1,hm1,hz1⟩
    have hd1:DecAt w1 x.d c ⟨sb,sl,-1,.nilIface,sline,sls,soff⟩:=HS.out.dec.mod hm1 (by intro h;rcases h with h|h|h;exact HX.out.ne1 h;exact HX.out.ne2 h;exact HX.out.ne3 h)
    have hc1:=hd1.cell
    have hf1:=hd1.frozen
    have HD1:=Lib.hid hd1
    have HB1:=Lib.hid hb1
    have HM1:=Lib.hid hm1
    have HZ1:=Lib.hid hz1
    clear hd1 hb1 hm1 hz1 hc hf hcon
    go_wp2
    go_ret2
    have hd:=(HD1.out.set 20 .nilIface).set 23 (.int .i64 (soff + 1))
    have hm:=((Mod.refl (fun k=>k=x.d) w1).setCell (p:=⟨x.d,20,none⟩) (Or.inl rfl) .nilIface).setCell (p:=⟨x.d,23,none⟩) (Or.inl rfl) (.int .i64 (soff + 1))
    have hm0:Mod x.S0 w _:=(HM1.out.mono (fun _ _ h=>Or.inr h)).trans (hm.mono (fun _ _ h=>Or.inl h):Mod x.S0 w1 _) (fun _ _ h=>h)
    refine ⟨rfl,⟨sb,sl,-1,.nilIface,sline,sls,soff + 1⟩,HS.out.step HX.out hd hm0 ⟨rest,HB1.out.mod hm (fun h=>HX.out.ne1 h.symm) (fun h=>HX.out.ne2 h.symm) (fun h=>HX.out.ne3 h.symm),Or.inl ⟨rfl,rfl⟩⟩ ?_ rfl (Or.inl rfl) rfl,rfl,rfl,hm0,by simp [World.setCell];exact HZ1.out⟩
    exact HS.out.pos.got (Or.inl rfl) _ rfl rfl (by simp [h10]) (by simp [h10])
theorem endV_err (x:Cx):ErrV x (endV x) (some (endE x.o.fails)):=by
  unfold endV endE
  split <;> exact rfl
theorem getc_end (x:Cx) (hx:x.Ok) (c:DC) (hdc:DcOk x c) (w:World) (v:DV) (buf:Bs) (h:RdS x c w v [] none buf) :
    Calls Tryz.prog 35 #[.pointer (some ⟨x.d,0,none⟩)] w fun e w'=>e=.returned (.tuple #[.int .u8 0,.bool false]) ∧
      ∃ v',RdS x c w' v' [] (some (endE x.o.fails)) buf∧v'.nb=-1∧v'.bufv=v.bufv∧Mod x.S0 w w'∧w'.heap.size=w.heap.size:=by
  obtain ⟨un,hb,hun⟩:=h.inp
  have hun':v.nb=-1∧un=[]:=by
    rcases hun with ⟨h1,h2⟩|⟨b,_,h2⟩
    · exact ⟨h1,h2.symm⟩
    · cases h2
  obtain ⟨hn,rfl⟩:=hun'
  clear hun
  have hc:=h.dec.cell
  have hf:=h.dec.frozen
  have he:v.err=.nilIface:=h.err
  have hcr:=hdc.r
  have hev:(∃ u t,endV x=.iface u t):=by unfold endV;split <;> exact ⟨_,_,rfl⟩
  obtain ⟨u,t,hev⟩:=hev
  have HEV:=Lib.hid hev
  have hcon:=readByte_end x hx w h.base hb
  rw [hev] at hcon
  have hcon:=Lib.hid hcon
  have HX:=Lib.hid hx
  have HS:=Lib.hid h
  obtain ⟨sb,sl,snb,serr,sline,sls,soff⟩:=v
  simp only at he hn
  subst he hn
  have hmeth:=fun a w=>rbMethod a w
  have hent:=fun a w=>rbEnter a w
  clear h hx hb hdc hev
  go_enter Tryz.func35,Tryz.ntmps35
  go_wp2_with fail
  refine hcon.out.mono ?_
  rintro e w1 ⟨rfl,hb1,hm1,hz1⟩
  have hd1:DecAt w1 x.d c ⟨sb,sl,-1,.nilIface,sline,sls,soff⟩:=HS.out.dec.mod hm1 (by intro h;rcases h with h|h|h;exact HX.out.ne1 h;exact HX.out.ne2 h;exact HX.out.ne3 h)
  have hc1:=hd1.cell
  have hf1:=hd1.frozen
  have HD1:=Lib.hid hd1
  have HB1:=Lib.hid hb1
  have HM1:=Lib.hid hm1
  have HZ1:=Lib.hid hz1
  clear hd1 hb1 hm1 hz1 hc hf hcon
  go_wp2
  go_ret2
  have hd:=HD1.out.set 20 (.iface u t)
  have hm:=(Mod.refl (fun k=>k=x.d) w1).setCell (p:=⟨x.d,20,none⟩) (Or.inl rfl) (.iface u t)
  have hm0:Mod x.S0 w _:=(HM1.out.mono (fun _ _ h=>Or.inr h)).trans (hm.mono (fun _ _ h=>Or.inl h):Mod x.S0 w1 _) (fun _ _ h=>h)
  refine ⟨rfl,⟨sb,sl,-1,.iface u t,sline,sls,soff⟩,HS.out.step HX.out hd hm0 ⟨[],HB1.out.mod hm (fun h=>HX.out.ne1 h.symm) (fun h=>HX.out.ne2 h.symm) (fun h=>HX.out.ne3 h.symm),Or.inl ⟨rfl,rfl⟩⟩ HS.out.pos (by rw [← HEV.out];exact endV_err x) (Or.inr ⟨rfl,rfl⟩) rfl,rfl,rfl,hm0,by simp [World.setCell];exact HZ1.out⟩
theorem getc_err (c:DC) (d:Nat) (w:World) (v:DV) (h:DecAt w d c v) (u:TypeId) (t:Value) (he:v.err=.iface u t) :
    Calls Tryz.prog 35 #[.pointer (some ⟨d,0,none⟩)] w fun e w'=>e=.returned (.tuple #[.int .u8 0,.bool false])∧w=w':=by
  have hc:=h.cell
  have hf:=h.frozen
  clear h
  go_enter Tryz.func35,Tryz.ntmps35
  go_wp2
  go_ret2
  exact ⟨rfl,rfl⟩
end Go.Proofs.YtkjnockljapnbaaGreatDoor
namespace Go.Proofs.YtkjnockljapnbaaGreatDoor
open Go Go.RowKit
theorem run_eql_iface_types {P:Program} {ti t u:TypeId} {ms:Array (String × TypeId)} (a b:Value) (w:World) (hi:P.underlying ti=some (.interface ms)) (hn:t ≠ u) :
    (binOp .eql ti (.iface t a) (.iface u b)).run P w=.ok (.bool false) w:=by
  have h:∀ d:Nat,(Op.equalIn (d + 1) ti (.iface t a) (.iface u b)).run P w=.ok false w:=fun d=>by
    simp [Op.equalIn,run_underlying hi,hn]
  simp only [binOp]
  simp [Op.equal,Op.maxDepth,h 9999]
theorem errComparable:(Tryz.prog.info? 177).map (·.comparable)=some true:=by kernel_rfl
theorem errElem:(Tryz.prog.info? 179).map (·.size)=some 1:=by kernel_rfl
theorem eql_eof (a:Addr) (w:World):(binOp .eql 55 (.iface 177 (.pointer (some a))) (.iface 177 (.pointer (some a)))).run Tryz.prog w=.ok (.bool true) w:=by
  have h1:=errComparable
  have h2:=errElem
  cases hi:Tryz.prog.info? 177 with
  | none=>rw [hi] at h1;cases h1
  | some i=>
    cases hj:Tryz.prog.info? 179 with
    | none=>rw [hj] at h2;cases h2
    | some j=>
      rw [hi] at h1
      exact run_eql_iface_ptr_same w a Tryz.underlying55 Tryz.underlying177 hi (by simpa using h1) hj
theorem eql_own (a:Value) (b:Value) (w:World):(binOp .eql 55 (.iface 109 a) (.iface 177 b)).run Tryz.prog w=.ok (.bool false) w:=
  run_eql_iface_types a b w Tryz.underlying55 (by decide)
theorem eql_syn (a:Value) (b:Value) (w:World):(binOp .eql 55 (.iface 106 a) (.iface 177 b)).run Tryz.prog w=.ok (.bool false) w:=
  run_eql_iface_types a b w Tryz.underlying55 (by decide)
theorem u8ne {b c:UInt8} {n:Int} (h:b ≠ c) (hc:(c.toNat:Int)=n):((b.toNat:Int) == n)=false:=by
  subst hc
  simp
  intro h'
  exact h (UInt8.toNat_inj.1 (by omega))
theorem RdS.suf {x:Cx} {c:DC} {w:World} {v:DV} {rest:Bs} {e:Option EK} {buf:Bs} (h:RdS x c w v rest e buf):rest <:+ x.T:=by
  obtain ⟨pre,hT,_⟩:=h.pos
  exact ⟨pre,hT.symm⟩
theorem getc_some (x:Cx) (hx:x.Ok) (c:DC) (hdc:DcOk x c) (w:World) (v:DV) (b:UInt8) (rest:Bs) (e:Option EK) (buf:Bs) (h:RdS x c w v (b :: rest) e buf) :
    Calls Tryz.prog 35 #[.pointer (some ⟨x.d,0,none⟩)] w fun e w'=>e=.returned (.tuple #[.int .u8 b.toNat,.bool true]) ∧
      ∃ v',RdS x c w' v' rest none buf∧v'.nb=-1∧v'.bufv=v.bufv∧Mod x.S0 w w'∧w'.heap.size=w.heap.size:=by
  have he:e=none:=by rcases h.fin with h|⟨_,h⟩;exact h;cases h
  subst he
  obtain ⟨un,hb,hun⟩:=h.inp
  rcases hun with ⟨hn,rfl⟩|⟨b',hn,hu⟩
  · exact getc_rd x hx c hdc w v b rest buf h hb hn
  · cases hu
    exact getc_nb x hx c w v b rest rest buf h hb hn rfl
theorem getc_none (x:Cx) (hx:x.Ok) (c:DC) (hdc:DcOk x c) (w:World) (v:DV) (e:Option EK) (buf:Bs) (h:RdS x c w v [] e buf) :
    Calls Tryz.prog 35 #[.pointer (some ⟨x.d,0,none⟩)] w fun e w'=>e=.returned (.tuple #[.int .u8 0,.bool false]) ∧
      ∃ v',RdS x c w' v' [] (some (endE x.o.fails)) buf∧v'.nb=-1∧v'.bufv=v.bufv∧Mod x.S0 w w'∧w'.heap.size=w.heap.size:=by
  have hn:v.nb=-1:=by
    obtain ⟨un,hb,hun⟩:=h.inp
    rcases hun with ⟨h1,h2⟩|⟨b,_,h2⟩
    · exact h1
    · cases h2
  rcases h.fin with he|⟨he,_⟩
  · subst he
    exact getc_end x hx c hdc w v buf h
  · subst he
    have hev:∃ u t,v.err=.iface u t:=by
      have:=h.err
      unfold endE at this
      split at this <;> exact ⟨_,_,this⟩
    obtain ⟨u,t,hev⟩:=hev
    refine (getc_err c x.d w v h.dec u t hev).mono ?_
    rintro e w' ⟨rfl,rfl⟩
    exact ⟨rfl,v,h,hn,rfl,Mod.refl _ _,rfl⟩
theorem ungetc_c (x:Cx) (hx:x.Ok) (c:DC) (w:World) (v:DV) (b:UInt8) (rest:Bs) (buf:Bs) (h:RdS x c w v rest none buf) (hn:v.nb=-1) (hsuf:(b :: rest) <:+ x.T) :
    Calls Tryz.prog 36 #[.pointer (some ⟨x.d,0,none⟩),.int .u8 b.toNat] w fun e w'=>e=.returned (.tuple #[]) ∧
      ∃ v',RdS x c w' v' (b :: rest) none buf∧v'.nb=b.toNat∧v'.bufv=v.bufv∧Mod x.S0 w w'∧w'.heap.size=w.heap.size:=by
  obtain ⟨un,hb,hun⟩:=h.inp
  have hun':rest=un:=by
    rcases hun with ⟨_,h2⟩|⟨b,h1,h2⟩
    · exact h2
    · omega
  subst hun'
  clear hun
  have hc:=h.dec.cell
  have hf:=h.dec.frozen
  obtain ⟨o1,o2,l1,l2⟩:=h.pos.bounds hx
  have hb1:=UInt8.toNat_lt b
  have HX:=Lib.hid hx
  have HS:=Lib.hid h
  have HB:=Lib.hid hb
  have HN:=Lib.hid hn
  have HU:=Lib.hid hsuf
  obtain ⟨sb,sl,snb,serr,sline,sls,soff⟩:=v
  simp only at hn o1 o2 l1 l2
  clear h hx hb hsuf hn
  by_cases h10:b=10
  · subst h10
    go_enter Tryz.func36,Tryz.ntmps36
    go_wp2
    go_end0
    have hd:=((HS.out.dec.set 21 (.int .i64 (sline - 1))).set 18 (.int .i64 10)).set 23 (.int .i64 (soff - 1))
    have hm:=(((Mod.refl (fun k=>k=x.d) w).setCell (p:=⟨x.d,21,none⟩) (Or.inl rfl) (.int .i64 (sline - 1))).setCell (p:=⟨x.d,18,none⟩) (Or.inl rfl) (.int .i64 10)).setCell (p:=⟨x.d,23,none⟩) (Or.inl rfl) (.int .i64 (soff - 1))
    have hm0:Mod x.S0 w _:=hm.mono (fun _ _ h=>Or.inl h)
    refine ⟨rfl,⟨sb,sl,10,serr,sline - 1,sls,soff - 1⟩,HS.out.step HX.out hd hm0 ⟨rest,HB.out.mod hm (fun h=>HX.out.ne1 h.symm) (fun h=>HX.out.ne2 h.symm) (fun h=>HX.out.ne3 h.symm),Or.inr ⟨10,rfl,rfl⟩⟩ ?_ HS.out.err (Or.inl rfl) rfl,rfl,rfl,hm0,by simp [World.setCell]⟩
    exact HS.out.pos.put HU.out HN.out _ rfl rfl (by simp) rfl
  · have hb10:=u8ne10 h10
    go_enter Tryz.func36,Tryz.ntmps36
    go_wp2
    go_end0
    have hd:=(HS.out.dec.set 18 (.int .i64 b.toNat)).set 23 (.int .i64 (soff - 1))
    have hm:=((Mod.refl (fun k=>k=x.d) w).setCell (p:=⟨x.d,18,none⟩) (Or.inl rfl) (.int .i64 b.toNat)).setCell (p:=⟨x.d,23,none⟩) (Or.inl rfl) (.int .i64 (soff - 1))
    have hm0:Mod x.S0 w _:=hm.mono (fun _ _ h=>Or.inl h)
    refine ⟨rfl,⟨sb,sl,b.toNat,serr,sline,sls,soff - 1⟩,HS.out.step HX.out hd hm0 ⟨rest,HB.out.mod hm (fun h=>HX.out.ne1 h.symm) (fun h=>HX.out.ne2 h.symm) (fun h=>HX.out.ne3 h.symm),Or.inr ⟨b,rfl,rfl⟩⟩ ?_ HS.out.err (Or.inl rfl) rfl,rfl,rfl,hm0,by simp [World.setCell]⟩
    exact HS.out.pos.put HU.out HN.out _ rfl rfl (by simp [h10]) rfl
theorem mustgetc_some (x:Cx) (hx:x.Ok) (c:DC) (hdc:DcOk x c) (w:World) (v:DV) (b:UInt8) (rest:Bs) (e:Option EK) (buf:Bs) (h:RdS x c w v (b :: rest) e buf) :
    Calls Tryz.prog 38 #[.pointer (some ⟨x.d,0,none⟩)] w fun e w'=>e=.returned (.tuple #[.int .u8 b.toNat,.bool true]) ∧
      ∃ v',RdS x c w' v' rest none buf∧v'.nb=-1∧v'.bufv=v.bufv∧Mod x.S0 w w'∧w'.heap.size=w.heap.size:=by
  have hcon:=Lib.hid (getc_some x hx c hdc w v b rest e buf h)
  clear h hx hdc
  go_enter Tryz.func38,Tryz.ntmps38
  go_wp2_with fail
  refine hcon.out.mono ?_
  rintro e w1 ⟨rfl,hq⟩
  have HQ:=Lib.hid hq
  clear hq hcon
  go_wp2
  go_ret2
  exact ⟨rfl,HQ.out⟩
theorem mustgetc_none (x:Cx) (hx:x.Ok) (c:DC) (hdc:DcOk x c) (w:World) (v:DV) (e:Option EK) (buf:Bs) (h:RdS x c w v [] e buf) :
    Calls Tryz.prog 38 #[.pointer (some ⟨x.d,0,none⟩)] w fun e w'=>e=.returned (.tuple #[.int .u8 0,.bool false]) ∧
      ∃ v',ErrS x c w' v' (mustE x.o.fails)∧v'.bufv=v.bufv∧Mod x.S0 w w':=by
  have hcon:=Lib.hid (getc_none x hx c hdc w v e buf h)
  have HX:=Lib.hid hx
  clear h hx hdc
  go_enter Tryz.func38,Tryz.ntmps38
  go_wp2_with fail
  refine hcon.out.mono ?_
  rintro e w1 ⟨rfl,v1,h1,hn1,hb1,hm1,hz1⟩
  have hc1:=h1.dec.cell
  have hf1:=h1.dec.frozen
  have heof:w1.cell? ⟨0,0,none⟩=some x.eofV:=by rw [← HX.out.eof];exact h1.base.cell HX.out.gB
  have herr:=h1.err
  have H1:=Lib.hid h1
  have HB1:=Lib.hid hb1
  have HM1:=Lib.hid hm1
  have HE:=Lib.hid (fun k msg=>synErr x.d c v1 (w1.drewN k) h1.dec msg)
  clear h1 hb1 hm1 hz1 hn1 hcon
  have q1:=fun a w=>eql_eof a w
  have q2:=fun a b w=>eql_own a b w
  cases hfl:x.o.fails
  · have he:v1.err=x.eofV:=by rw [hfl] at herr;exact herr
    clear herr
    go_wp2
    go_quiet (fail)
    go_wp2_with fail
    refine (HE.out _ _).mono ?_
    rintro e w2 ⟨rfl,hw2⟩
    have hd2:DecAt w2 x.d c v1:=by rw [hw2];exact Blk.alloc (show Blk (w1.drewN _) _ _ _ from H1.out.dec) _
    have hm2:Mod x.S0 w w2:=by rw [hw2];exact (HM1.out.drewN _).alloc _
    have hc2:=hd2.cell
    have hf2:=hd2.frozen
    have HD2:=Lib.hid hd2
    have HM2:=Lib.hid hm2
    have HB0:=Lib.hid H1.out.base
    have hb2:Below x.B x.W0 w2:=by rw [hw2];exact (Below_drewN HB0.out _).alloc HB0.out.size _
    have HB2:=Lib.hid hb2
    clear hw2 hd2 hm2 hb2 hc1 hf1
    go_wp2
    go_ret2
    rw [show mustE x.o.fails=.syn by rw [hfl];rfl]
    exact ⟨rfl,{ v1 with err:=.iface 106 (.pointer (some ⟨w1.heap.size,0,none⟩)) },⟨HB2.out.setCell HX.out.d _,HD2.out.set 20 _,⟨_,rfl⟩⟩,HB1.out,HM2.out.setCell (Or.inl (Or.inl rfl)) _⟩
  · have he:v1.err=ownV:=by rw [hfl] at herr;exact herr
    clear herr
    go_wp2
    go_quiet (fail)
    go_wp2
    go_ret2
    rw [show mustE x.o.fails=.own by rw [hfl];rfl]
    exact ⟨rfl,v1,⟨Below_drewN H1.out.base _,H1.out.dec,he⟩,HB1.out,HM1.out.drewN _⟩
structure SpPost (x:Cx) (c:DC) (w:World) (v:DV) (rest:Bs) (buf:Bs) (w':World) (v':DV) (e':Option EK):Prop where
  rd:RdS x c w' v' (skipWs rest) e' buf
  bufv:v'.bufv=v.bufv
  mod:Mod x.S0 w w'
theorem space_c (x:Cx) (hx:x.Ok) (c:DC) (hdc:DcOk x c) (w:World) (v:DV) (rest:Bs) (e:Option EK) (buf:Bs) (h:RdS x c w v rest e buf) :
    Calls Tryz.prog 40 #[.pointer (some ⟨x.d,0,none⟩)] w fun en w'=>en=.returned (.tuple #[])∧∃ v' e',SpPost x c w v rest buf w' v' e':=by
  have HX:=Lib.hid hx
  have HD:=Lib.hid hdc
  have H:=Lib.hid h
  clear h hx hdc
  go_enter Tryz.func40,Tryz.ntmps40
  go_wp2
  go_loopg [2,3] rest.length (fun k _ _ wr=>∃ v1 e1 rest1,rest1.length=k∧skipWs rest1=skipWs rest∧RdS x c wr v1 rest1 e1 buf∧v1.bufv=v.bufv∧Mod x.S0 w wr)
  case atStart=>exact ⟨v,e,rest,rfl,rfl,H.out,rfl,Mod.refl _ _⟩
  case round=>
    obtain ⟨v1,e1,rest1,hk,hsk,h1,hb1,hm1⟩:=hrel
    cases rest1 with
    | nil=>
      have hcon:=Lib.hid (getc_none x HX.out c HD.out wr v1 e1 buf h1)
      have HSK:=Lib.hid hsk
      have HB1:=Lib.hid hb1
      have HM1:=Lib.hid hm1
      clear h1 hb1 hm1 hsk hk
      go_wp2_with fail
      refine hcon.out.mono ?_
      rintro e2 w2 ⟨rfl,v2,h2,hn2,hb2,hm2,hz2⟩
      have H2:=Lib.hid h2
      have HB2:=Lib.hid hb2
      have HM2:=Lib.hid hm2
      clear h2 hb2 hm2 hz2 hn2 hcon
      go_wp2
      (try simp only [Exit.inBlock,Exit.then]);refine bodyPost_ret (results_none rfl _ _ _) rfl ?_
      exact ⟨rfl,v2,_,by rw [← HSK.out];exact H2.out,HB2.out.trans HB1.out,HM1.out.trans HM2.out (fun _ _ h=>h)⟩
    | cons b r=>
      have hcon:=Lib.hid (getc_some x HX.out c HD.out wr v1 b r e1 buf h1)
      have HSK:=Lib.hid hsk
      have HB1:=Lib.hid hb1
      have HM1:=Lib.hid hm1
      have HK:=Lib.hid hk
      have HSUF:=Lib.hid h1.suf
      clear h1 hb1 hm1 hsk hk
      by_cases hws:isWs b=true
      · have hb:b=32 ∨ b=13 ∨ b=10 ∨ b=9:=by
          simpa [isWs,or_assoc] using hws
        have HSK2:Hid (skipWs r=skipWs rest):=by
          have:=HSK.out
          rw [skipWs,if_pos hws] at this
          exact this
        clear hws
        rcases hb with rfl|rfl|rfl|rfl
        all_goals
          go_wp2_with fail
          refine hcon.out.mono ?_
          rintro e2 w2 ⟨rfl,v2,h2,hn2,hb2,hm2,hz2⟩
          have H2:=Lib.hid h2
          have HB2:=Lib.hid hb2
          have HM2:=Lib.hid hm2
          clear h2 hb2 hm2 hz2 hn2 hcon
          go_wp2
          go_roundg r.length
          case measure=>have:=HK.out;simp at this;omega
          case rel=>exact ⟨v2,none,r,rfl,HSK2.out,H2.out,HB2.out.trans HB1.out,HM1.out.trans HM2.out (fun _ _ h=>h)⟩
      · have hb:b ≠ 32∧b ≠ 13∧b ≠ 10∧b ≠ 9:=by
          refine ⟨?_,?_,?_,?_⟩ <;> (intro h;subst h;exact hws rfl)
        have HSK2:Hid (skipWs rest=b :: r):=by
          have:=HSK.out
          rw [skipWs,if_neg hws] at this
          exact this.symm
        have t1:((b.toNat:Int) == 32)=false:=u8ne hb.1 rfl
        have t2:((b.toNat:Int) == 13)=false:=u8ne hb.2.1 rfl
        have t3:((b.toNat:Int) == 10)=false:=u8ne hb.2.2.1 rfl
        have t4:((b.toNat:Int) == 9)=false:=u8ne hb.2.2.2 rfl
        clear hws hb
        go_wp2_with fail
        refine hcon.out.mono ?_
        rintro e2 w2 ⟨rfl,v2,h2,hn2,hb2,hm2,hz2⟩
        have hun:=Lib.hid (ungetc_c x HX.out c w2 v2 b r buf h2 hn2 HSUF.out)
        have HB2:=Lib.hid hb2
        have HM2:=Lib.hid hm2
        clear h2 hb2 hm2 hz2 hn2 hcon
        go_wp2_with fail
        refine hun.out.mono ?_
        rintro e3 w3 ⟨rfl,v3,h3,hn3,hb3,hm3,hz3⟩
        have H3:=Lib.hid h3
        have HB3:=Lib.hid hb3
        have HM3:=Lib.hid hm3
        clear h3 hb3 hm3 hz3 hn3 hun
        go_wp2
        (try simp only [Exit.inBlock,Exit.then]);refine bodyPost_ret (results_none rfl _ _ _) rfl ?_
        exact ⟨rfl,v3,none,by rw [HSK2.out];exact H3.out,HB3.out.trans (HB2.out.trans HB1.out),(HM1.out.trans HM2.out (fun _ _ h=>h)).trans HM3.out (fun _ _ h=>h)⟩
end Go.Proofs.YtkjnockljapnbaaGreatDoor
namespace Go.Proofs.YtkjnockljapnbaaGreatDoor
open Go Go.RowKit
theorem RdS.buf {x:Cx} (hx:x.Ok) {c:DC} {w w':World} {v v':DV} {rest:Bs} {e:Option EK} {buf buf':Bs} (h:RdS x c w v rest e buf) (dec:DecAt w' x.d c v') (hm:Mod (fun k=>k=x.d ∨ bufBlk v.bufv k) w w')
    (h1:v'.nb=v.nb) (h2:v'.err=v.err) (h3:v'.line=v.line) (h4:v'.lstart=v.lstart) (h5:v'.off=v.off) (bf:BufAt x w' v'.bufv buf'):RdS x c w' v' rest e buf':=by
  have hs:∀ k,x.Sio k → ¬ (k=x.d ∨ bufBlk v.bufv k):=by
    intro k hk hk'
    rcases hk' with hk'|hk'
    · subst hk'
      rcases hk with h|h|h
      · exact hx.ne1 h
      · exact hx.ne2 h
      · exact hx.ne3 h
    · exact h.bf.notS0 k hk' (Or.inr hk)
  refine ⟨Mod.below h.base h.base.size hm ?_,dec,?_,?_,by rw [h2];exact h.err,h.fin,bf⟩
  · intro i hi
    rcases hi with hi|hi
    · subst hi;exact hx.d
    · rcases h.bf with ⟨hv,_⟩|⟨g,cap,arr,hv,_,_,_,_,hg,_,_⟩
      · rw [hv] at hi;exact hi.elim
      · rw [hv] at hi
        have:i=g:=hi
        omega
  · obtain ⟨un,hb,hun⟩:=h.inp
    exact ⟨un,hb.mod hm (hs _ (Or.inl rfl)) (hs _ (Or.inr (Or.inl rfl))) (hs _ (Or.inr (Or.inr rfl))),by rw [h1];exact hun⟩
  · obtain ⟨pre,a,b,c',d⟩:=h.pos
    exact ⟨pre,a,by rw [h5];exact b,by rw [h3];exact c',by rw [h1,h4];exact d⟩
theorem reset_c (x:Cx) (hx:x.Ok) (c:DC) (w:World) (v:DV) (rest:Bs) (e:Option EK) (buf:Bs) (h:RdS x c w v rest e buf) :
    Calls Tryz.prog 42 #[.pointer (some ⟨x.d,7,none⟩)] w fun en w'=>en=.returned (.tuple #[])∧∃ v',RdS x c w' v' rest e []∧v'.nb=v.nb∧(∀ k,bufBlk v'.bufv k ↔ bufBlk v.bufv k)∧Mod x.S0 w w'∧w'.heap.size=w.heap.size:=by
  have hc:=h.dec.cell
  have hf:=h.dec.frozen
  have HX:=Lib.hid hx
  have H:=Lib.hid h
  obtain ⟨sb,sl,snb,serr,sline,sls,soff⟩:=v
  have hbf:=h.bf
  clear h hx
  rcases hbf with ⟨hv,hb⟩|⟨g,cap,arr,hv,hg,hsz,hl,hcp,hBg,hnS,hel⟩
  · simp only at hv
    subst hv
    go_enter Tryz.func42,Tryz.ntmps42
    go_wp2
    go_end0
    have hd:=((H.out.dec.set 7 (.slice none 0 0)).set 8 (.int .i64 0)).set 9 (.int .i8 0)
    have hm:=(((Mod.refl (fun k=>k=x.d) w).setCell (p:=⟨x.d,7,none⟩) (Or.inl rfl) (.slice none 0 0)).setCell (p:=⟨x.d,8,none⟩) (Or.inl rfl) (.int .i64 0)).setCell (p:=⟨x.d,9,none⟩) (Or.inl rfl) (.int .i8 0)
    exact ⟨rfl,⟨.slice none 0 0,0,snb,serr,sline,sls,soff⟩,H.out.buf HX.out hd (hm.mono (fun _ _ h=>Or.inl h)) rfl rfl rfl rfl rfl (Or.inl ⟨rfl,rfl⟩),rfl,fun k=>Iff.rfl,hm.mono (fun _ _ h=>Or.inl h),by simp [World.setCell]⟩
  · simp only at hv
    subst hv
    have HG:=Lib.hid hg
    have HEL:=Lib.hid hel
    clear hg hel
    go_enter Tryz.func42,Tryz.ntmps42
    go_wp2
    go_end0
    have hd:=((H.out.dec.set 7 (.slice (some ⟨g,0,none⟩) 0 cap)).set 8 (.int .i64 0)).set 9 (.int .i8 0)
    have hm:=(((Mod.refl (fun k=>k=x.d) w).setCell (p:=⟨x.d,7,none⟩) (Or.inl rfl) (.slice (some ⟨g,0,none⟩) 0 cap)).setCell (p:=⟨x.d,8,none⟩) (Or.inl rfl) (.int .i64 0)).setCell (p:=⟨x.d,9,none⟩) (Or.inl rfl) (.int .i8 0)
    have hgd:g ≠ x.d:=fun h=>hnS (Or.inl h)
    exact ⟨rfl,⟨.slice (some ⟨g,0,none⟩) 0 cap,0,snb,serr,sline,sls,soff⟩,H.out.buf HX.out hd (hm.mono (fun _ _ h=>Or.inl h)) rfl rfl rfl rfl rfl
      (Or.inr ⟨g,cap,arr,rfl,((HG.out.set_ne hgd _).set_ne hgd _).set_ne hgd _,hsz,Nat.zero_le _,hcp,hBg,hnS,fun j hj=>by simp at hj⟩),rfl,fun k=>Iff.rfl,hm.mono (fun _ _ h=>Or.inl h),by simp [World.setCell]⟩
theorem bytes_c (x:Cx) (c:DC) (w:World) (v:DV) (rest:Bs) (e:Option EK) (buf:Bs) (h:RdS x c w v rest e buf) :
    Calls Tryz.prog 44 #[.pointer (some ⟨x.d,7,none⟩)] w fun en w'=>en=.returned v.bufv∧∃ k,w'=w.drewN k:=by
  have hc:=h.dec.cell
  have hf:=h.dec.frozen
  have hbf:=h.bf
  obtain ⟨sb,sl,snb,serr,sline,sls,soff⟩:=v
  clear h
  rcases hbf with ⟨hv,hb⟩|⟨g,cap,arr,hv,hg,hsz,hl,hcp,hBg,hnS,hel⟩
  all_goals
    simp only at hv
    subst hv
    try clear hg hel hBg hnS
    go_enter Tryz.func44,Tryz.ntmps44
    go_wp2
    go_quiet (fail)
    go_wp2
    go_ret
    exact ⟨rfl,_,rfl⟩
theorem len_c (x:Cx) (c:DC) (w:World) (v:DV) (rest:Bs) (e:Option EK) (buf:Bs) (h:RdS x c w v rest e buf) :
    Calls Tryz.prog 49 #[.pointer (some ⟨x.d,7,none⟩)] w fun en w'=>en=.returned (.int .i64 buf.length)∧∃ k,w'=w.drewN k:=by
  have hc:=h.dec.cell
  have hf:=h.dec.frozen
  have hbf:=h.bf
  obtain ⟨sb,sl,snb,serr,sline,sls,soff⟩:=v
  clear h
  rcases hbf with ⟨hv,hb⟩|⟨g,cap,arr,hv,hg,hsz,hl,hcp,hBg,hnS,hel⟩
  · simp only at hv
    subst hv hb
    go_enter Tryz.func49,Tryz.ntmps49
    go_wp2
    go_quiet (fail)
    go_wp2
    go_ret
    exact ⟨rfl,_,rfl⟩
  · simp only at hv
    subst hv
    have hl2:(buf.length:Int) ≤ 9223372036854775807:=by omega
    clear hg hel hBg hnS
    go_enter Tryz.func49,Tryz.ntmps49
    go_wp2
    go_quiet (fail)
    go_wp2
    go_ret
    exact ⟨by simp,_,rfl⟩
theorem tryGrow_yes (d:Nat) (c:DC) (v:DV) (w:World) (h:DecAt w d c v) (g len cap n:Nat) (hv:v.bufv=.slice (some ⟨g,0,none⟩) len cap) (hn:len + n ≤ cap) (hc:cap ≤ 9223372036854775807) :
    Calls Tryz.prog 69 #[.pointer (some ⟨d,7,none⟩),.int .i64 n] w fun en w'=>en=.returned (.tuple #[.int .i64 len,.bool true])∧w'=w.setCell ⟨d,7,none⟩ (.slice (some ⟨g,0,none⟩) (len + n) cap):=by
  have hce:=h.cell
  have hf:=h.frozen
  obtain ⟨sb,sl,snb,serr,sline,sls,soff⟩:=v
  simp only at hv
  subst hv
  clear h
  have h1:(n:Int) ≤ (cap:Int) - (len:Int):=by omega
  have h2:(len:Int) + (n:Int) ≤ (cap:Int):=by omega
  go_enter Tryz.func69,Tryz.ntmps69
  go_wp2
  go_ret2
  exact ⟨rfl,rfl⟩
theorem tryGrow_no (d:Nat) (c:DC) (v:DV) (w:World) (h:DecAt w d c v) (a:Option Addr) (len cap n:Nat) (hv:v.bufv=.slice a len cap) (hl:len ≤ cap) (hn:cap < len + n) (hc:cap ≤ 9223372036854775807) :
    Calls Tryz.prog 69 #[.pointer (some ⟨d,7,none⟩),.int .i64 n] w fun en w'=>en=.returned (.tuple #[.int .i64 0,.bool false])∧w=w':=by
  have hce:=h.cell
  have hf:=h.frozen
  obtain ⟨sb,sl,snb,serr,sline,sls,soff⟩:=v
  simp only at hv
  subst hv
  clear h
  have h1:¬ ((n:Int) ≤ (cap:Int) - (len:Int)):=by omega
  go_enter Tryz.func69,Tryz.ntmps69
  go_wp2
  go_ret2
  exact ⟨rfl,rfl⟩
end Go.Proofs.YtkjnockljapnbaaGreatDoor
