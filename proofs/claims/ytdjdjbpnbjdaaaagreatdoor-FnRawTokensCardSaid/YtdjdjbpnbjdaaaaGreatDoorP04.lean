/- Part of the proof that laws.FnRawTokens returns true for every argument. No conditions. -/
import Derived.Test.YtdjdjbpnbjdaaaaGreatDoorP03
import Derived.Deep.LoopGhost
import Derived.LaidEql
import Derived.Shelf.Small.Strs
import Derived.Shelf.Strconv.Itoa0
import Derived.Shelf.LaysM
import Derived.Shelf.Bytes.Len
import Derived.Shelf.Bytes.TryGrow
import Derived.Shelf.Bytes.GrowSliceCatch
import Derived.Shelf.Bytes.GrowSlice
import Derived.Shelf.Bytes.GrowRow0
import Derived.Shelf.Bytes.GrowRow
import Derived.Shelf.Strings.Search1
import Derived.Shelf.Strings.Fold
import Derived.Shelf.Unicode.DecodeSlow
import Derived.Shelf.Unicode.DecodeAny
import Derived.Shelf.Unicode.Is16White
import Derived.Shelf.Unicode.CaseLookup
import Derived.Shelf.Unicode.CaseConvert
import Derived.Shelf.Unicode.Is16Any
import Derived.Shelf.Unicode.Is32Any
import Derived.Ground.GgnProg
import Derived.Shelf.Unicode.PredsGn
import Derived.Test.YtdjdjbpnbjdaaaaGreatDoorProg
set_option linter.all false
set_option maxHeartbeats 8000000
set_option maxRecDepth 100000
namespace Go.Proofs.YtdjdjbpnbjdaaaaGreatDoor
open Go Go.RowKit Tryz
theorem LA (a:Addr) (w:World):(method 408 172 (.pointer (some a)) "ReadByte").run prog w=.ok (180,.pointer (some a)) w:=by kernel_rfl
theorem RV (args:Array Value) (w:World):(callFunc 180 args).run prog w=.ok (.enter 180 args) w:=enters_of func180 (by kernel_rfl) rfl args w
theorem IX (d:Nat) (c:DC) (v:DV) (w:World) (h:bO w d c v) (msg:ByteArray) :
  Calls prog 30 #[.pointer (some ⟨d,0,none⟩),.string msg] w fun e w'=>e=.returned (.iface 109 (.pointer (some ⟨w.heap.size,0,none⟩))) ∧
   w'=w.alloc (.cells #[.string msg,.int .i64 v.line] 148):=by
 have hc:=h.cell
 have hf:=h.frozen
 clear h
 go_enter func30,ntmps30
 go_wp2
 go_ret
 exact ⟨rfl,rfl⟩
theorem pI.bounds {x:Cx} (hx:x.Ok) {v:DV} {rest:Bs} (h:pI x v rest):0≤v.off∧v.off≤1000000000∧1≤v.line∧v.line≤1000000001:=by
 obtain ⟨pre,hT,ho,hl,_⟩:=h
 have:=hx.len
 have h1:pre.length≤x.T.length:=by rw [hT];simp
 have h2:=O7 pre
 have h3:=T2 pre
 omega
theorem Gk (x:Cx) (hx:x.Ok) (c:DC) (w:World) (v:DV) (b:UInt8) (rest un:Bs) (buf:Bs) (h:bX x c w v (b::rest) none buf) (hb:pG x w un) (hn:v.nb=b.toNat) (hr:rest=un) :
  Calls prog 56 #[.pointer (some ⟨x.d,0,none⟩)] w fun e w'=>e=.returned (.tuple #[.int .u8 b.toNat,.bool true]) ∧
   ∃ v',bX x c w' v' rest none buf∧v'.nb=-1∧v'.bufv=v.bufv∧aK x.S0 w w'∧w'.heap.size=w.heap.size:=by
 have hc:=h.dec.cell
 have hf:=h.dec.frozen
 obtain ⟨o1,o2,l1,l2⟩:=h.pos.bounds hx
 have he:v.err=.nilIface:=h.err
 have bP:=UInt8.toNat_lt b
 have hw:(b.toNat:Int) % 256=b.toNat:=by omega
 have h0:(0:Int)≤(b.toNat:Int):=by omega
 have HX:=Lib.hid hx
 have HS:=Lib.hid h
 have HB:=Lib.hid hb
 have HN:=Lib.hid hn
 have HR:=Lib.hid hr
 obtain ⟨sb,sl,snb,serr,sline,sls,soff⟩:=v
 simp only at he hn o1 o2 l1 l2
 subst he hn
 clear h hx hb hr
 by_cases gN:b=10
 ·subst gN
  go_enter func56,ntmps56
  go_wp2
  go_ret2
  have hd:=(((HS.out.dec.set 18 (.int .i64 (-1))).set 21 (.int .i64 (sline+1))).set 22 (.int .i64 (soff+1))).set 23 (.int .i64 (soff+1))
  have hm:=((((aK.refl (fun k=>k=x.d) w).setCell (p:=⟨x.d,18,none⟩) (Or.inl rfl) (.int .i64 (-1))).setCell (p:=⟨x.d,21,none⟩) (Or.inl rfl) (.int .i64 (sline+1))).setCell (p:=⟨x.d,22,none⟩) (Or.inl rfl) (.int .i64 (soff+1))).setCell (p:=⟨x.d,23,none⟩) (Or.inl rfl) (.int .i64 (soff+1))
  have wE:aK x.S0 w _:=hm.mono (fun _ _ h=>Or.inl h)
  refine ⟨rfl,⟨sb,sl,-1,.nilIface,sline+1,soff+1,soff+1⟩,HS.out.step HX.out hd wE ⟨un,HB.out.mod hm (fun h=>HX.out.ne1 h.symm) (fun h=>HX.out.ne2 h.symm) (fun h=>HX.out.ne3 h.symm),Or.inl ⟨rfl,HR.out⟩⟩ ?_ rfl (Or.inl rfl) rfl,rfl,rfl,wE,by simp [World.setCell]⟩
  exact HS.out.pos.got (Or.inr rfl) _ rfl rfl (by simp) (by simp)
 ·have Gl:((b.toNat:Int)==10)=false:=by
   simp
   intro h
   exact gN (UInt8.toNat_inj.1 (by simpa using (show b.toNat=10 by omega)))
  go_enter func56,ntmps56
  go_wp2
  go_ret2
  have hd:=(HS.out.dec.set 18 (.int .i64 (-1))).set 23 (.int .i64 (soff+1))
  have hm:=((aK.refl (fun k=>k=x.d) w).setCell (p:=⟨x.d,18,none⟩) (Or.inl rfl) (.int .i64 (-1))).setCell (p:=⟨x.d,23,none⟩) (Or.inl rfl) (.int .i64 (soff+1))
  have wE:aK x.S0 w _:=hm.mono (fun _ _ h=>Or.inl h)
  refine ⟨rfl,⟨sb,sl,-1,.nilIface,sline,sls,soff+1⟩,HS.out.step HX.out hd wE ⟨un,HB.out.mod hm (fun h=>HX.out.ne1 h.symm) (fun h=>HX.out.ne2 h.symm) (fun h=>HX.out.ne3 h.symm),Or.inl ⟨rfl,HR.out⟩⟩ ?_ rfl (Or.inl rfl) rfl,rfl,rfl,wE,by simp [World.setCell]⟩
  exact HS.out.pos.got (Or.inr rfl) _ rfl rfl (by simp [gN]) (by simp [gN])
theorem X2 {b:UInt8} (h:b≠10):((b.toNat:Int)==10)=false:=by
 simp
 intro h'
 exact h (UInt8.toNat_inj.1 (by simpa using (show b.toNat=10 by omega)))
theorem Gm (x:Cx) (hx:x.Ok) (c:DC) (dR:iU x c) (w:World) (v:DV) (b:UInt8) (rest:Bs) (buf:Bs) (h:bX x c w v (b::rest) none buf) (hb:pG x w (b::rest)) (hn:v.nb=-1) :
  Calls prog 56 #[.pointer (some ⟨x.d,0,none⟩)] w fun e w'=>e=.returned (.tuple #[.int .u8 b.toNat,.bool true]) ∧
   ∃ v',bX x c w' v' rest none buf∧v'.nb=-1∧v'.bufv=v.bufv∧aK x.S0 w w'∧w'.heap.size=w.heap.size:=by
 have hc:=h.dec.cell
 have hf:=h.dec.frozen
 obtain ⟨o1,o2,l1,l2⟩:=h.pos.bounds hx
 have he:v.err=.nilIface:=h.err
 have hcr:=dR.r
 have cN:=Lib.hid (FH x hx w h.base b rest hb)
 have HX:=Lib.hid hx
 have HS:=Lib.hid h
 obtain ⟨sb,sl,snb,serr,sline,sls,soff⟩:=v
 simp only at he hn o1 o2 l1 l2
 subst he hn
 have CW:=fun a w=>LA a w
 have oI:=fun a w=>RV a w
 clear h hx hb dR
 by_cases gN:b=10
 ·subst gN
  go_enter func56,ntmps56
  go_wp2_with fail
  refine cN.out.mono ?_
  rintro e w1 ⟨rfl,bP,eA,iR⟩
  have nR:bO w1 x.d c ⟨sb,sl,-1,.nilIface,sline,sls,soff⟩:=HS.out.dec.mod eA (by intro h;rcases h with h|h|h;exact HX.out.ne1 h;exact HX.out.ne2 h;exact HX.out.ne3 h)
  have u7:=nR.cell
  have KM:=nR.frozen
  have FG:=Lib.hid nR
  have fV:=Lib.hid bP
  have oJ:=Lib.hid eA
  have K6:=Lib.hid iR
  clear nR bP eA iR hc hf cN
  go_wp2
  go_ret2
  have hd:=(((FG.out.set 20 .nilIface).set 21 (.int .i64 (sline+1))).set 22 (.int .i64 (soff+1))).set 23 (.int .i64 (soff+1))
  have hm:=((((aK.refl (fun k=>k=x.d) w1).setCell (p:=⟨x.d,20,none⟩) (Or.inl rfl) .nilIface).setCell (p:=⟨x.d,21,none⟩) (Or.inl rfl) (.int .i64 (sline+1))).setCell (p:=⟨x.d,22,none⟩) (Or.inl rfl) (.int .i64 (soff+1))).setCell (p:=⟨x.d,23,none⟩) (Or.inl rfl) (.int .i64 (soff+1))
  have wE:aK x.S0 w _:=(oJ.out.mono (fun _ _ h=>Or.inr h)).trans (hm.mono (fun _ _ h=>Or.inl h):aK x.S0 w1 _) (fun _ _ h=>h)
  refine ⟨rfl,⟨sb,sl,-1,.nilIface,sline+1,soff+1,soff+1⟩,HS.out.step HX.out hd wE ⟨rest,fV.out.mod hm (fun h=>HX.out.ne1 h.symm) (fun h=>HX.out.ne2 h.symm) (fun h=>HX.out.ne3 h.symm),Or.inl ⟨rfl,rfl⟩⟩ ?_ rfl (Or.inl rfl) rfl,rfl,rfl,wE,by simp [World.setCell];exact K6.out⟩
  exact HS.out.pos.got (Or.inl rfl) _ rfl rfl (by simp) (by simp)
 ·have Gl:=X2 gN
  go_enter func56,ntmps56
  go_wp2_with fail
  refine cN.out.mono ?_
  rintro e w1 ⟨rfl,bP,eA,iR⟩
  have nR:bO w1 x.d c ⟨sb,sl,-1,.nilIface,sline,sls,soff⟩:=HS.out.dec.mod eA (by intro h;rcases h with h|h|h;exact HX.out.ne1 h;exact HX.out.ne2 h;exact HX.out.ne3 h)
  have u7:=nR.cell
  have KM:=nR.frozen
  have FG:=Lib.hid nR
  have fV:=Lib.hid bP
  have oJ:=Lib.hid eA
  have K6:=Lib.hid iR
  clear nR bP eA iR hc hf cN
  go_wp2
  go_ret2
  have hd:=(FG.out.set 20 .nilIface).set 23 (.int .i64 (soff+1))
  have hm:=((aK.refl (fun k=>k=x.d) w1).setCell (p:=⟨x.d,20,none⟩) (Or.inl rfl) .nilIface).setCell (p:=⟨x.d,23,none⟩) (Or.inl rfl) (.int .i64 (soff+1))
  have wE:aK x.S0 w _:=(oJ.out.mono (fun _ _ h=>Or.inr h)).trans (hm.mono (fun _ _ h=>Or.inl h):aK x.S0 w1 _) (fun _ _ h=>h)
  refine ⟨rfl,⟨sb,sl,-1,.nilIface,sline,sls,soff+1⟩,HS.out.step HX.out hd wE ⟨rest,fV.out.mod hm (fun h=>HX.out.ne1 h.symm) (fun h=>HX.out.ne2 h.symm) (fun h=>HX.out.ne3 h.symm),Or.inl ⟨rfl,rfl⟩⟩ ?_ rfl (Or.inl rfl) rfl,rfl,rfl,wE,by simp [World.setCell];exact K6.out⟩
  exact HS.out.pos.got (Or.inl rfl) _ rfl rfl (by simp [gN]) (by simp [gN])
theorem X3 (x:Cx):BP x (sY x) (some (qK x.o.fails)):=by
 unfold sY qK
 split<;>exact rfl
theorem X4 (x:Cx) (hx:x.Ok) (c:DC) (dR:iU x c) (w:World) (v:DV) (buf:Bs) (h:bX x c w v [] none buf) :
  Calls prog 56 #[.pointer (some ⟨x.d,0,none⟩)] w fun e w'=>e=.returned (.tuple #[.int .u8 0,.bool false]) ∧
   ∃ v',bX x c w' v' [] (some (qK x.o.fails)) buf∧v'.nb=-1∧v'.bufv=v.bufv∧aK x.S0 w w'∧w'.heap.size=w.heap.size:=by
 obtain ⟨un,hb,iW⟩:=h.inp
 have T1:v.nb=-1∧un=[]:=by
  rcases iW with ⟨h1,h2⟩|⟨b,_,h2⟩
  ·exact ⟨h1,h2.symm⟩
  ·cases h2
 obtain ⟨hn,rfl⟩:=T1
 clear iW
 have hc:=h.dec.cell
 have hf:=h.dec.frozen
 have he:v.err=.nilIface:=h.err
 have hcr:=dR.r
 have tQ:(∃ u t,sY x=.iface u t):=by unfold sY;split<;>exact ⟨_,_,rfl⟩
 obtain ⟨u,t,tQ⟩:=tQ
 have Eu:=Lib.hid tQ
 have cN:=IW x hx w h.base hb
 rw [tQ] at cN
 have cN:=Lib.hid cN
 have HX:=Lib.hid hx
 have HS:=Lib.hid h
 obtain ⟨sb,sl,snb,serr,sline,sls,soff⟩:=v
 simp only at he hn
 subst he hn
 have CW:=fun a w=>LA a w
 have oI:=fun a w=>RV a w
 clear h hx hb dR tQ
 go_enter func56,ntmps56
 go_wp2_with fail
 refine cN.out.mono ?_
 rintro e w1 ⟨rfl,bP,eA,iR⟩
 have nR:bO w1 x.d c ⟨sb,sl,-1,.nilIface,sline,sls,soff⟩:=HS.out.dec.mod eA (by intro h;rcases h with h|h|h;exact HX.out.ne1 h;exact HX.out.ne2 h;exact HX.out.ne3 h)
 have u7:=nR.cell
 have KM:=nR.frozen
 have FG:=Lib.hid nR
 have fV:=Lib.hid bP
 have oJ:=Lib.hid eA
 have K6:=Lib.hid iR
 clear nR bP eA iR hc hf cN
 go_wp2
 go_ret2
 have hd:=FG.out.set 20 (.iface u t)
 have hm:=(aK.refl (fun k=>k=x.d) w1).setCell (p:=⟨x.d,20,none⟩) (Or.inl rfl) (.iface u t)
 have wE:aK x.S0 w _:=(oJ.out.mono (fun _ _ h=>Or.inr h)).trans (hm.mono (fun _ _ h=>Or.inl h):aK x.S0 w1 _) (fun _ _ h=>h)
 refine ⟨rfl,⟨sb,sl,-1,.iface u t,sline,sls,soff⟩,HS.out.step HX.out hd wE ⟨[],fV.out.mod hm (fun h=>HX.out.ne1 h.symm) (fun h=>HX.out.ne2 h.symm) (fun h=>HX.out.ne3 h.symm),Or.inl ⟨rfl,rfl⟩⟩ HS.out.pos (by rw [←Eu.out];exact X3 x) (Or.inr ⟨rfl,rfl⟩) rfl,rfl,rfl,wE,by simp [World.setCell];exact K6.out⟩
theorem X5 (c:DC) (d:Nat) (w:World) (v:DV) (h:bO w d c v) (u:TypeId) (t:Value) (he:v.err=.iface u t) :
  Calls prog 56 #[.pointer (some ⟨d,0,none⟩)] w fun e w'=>e=.returned (.tuple #[.int .u8 0,.bool false])∧w=w':=by
 have hc:=h.cell
 have hf:=h.frozen
 clear h
 go_enter func56,ntmps56
 go_wp2
 go_ret2
 exact ⟨rfl,rfl⟩
theorem gU {P:Program} {ti t u:TypeId} {ms:Array (String×TypeId)} (a b:Value) (w:World) (hi:P.underlying ti=some (.interface ms)) (hn:t≠u) :
  (binOp .eql ti (.iface t a) (.iface u b)).run P w=.ok (.bool false) w:=by
 have h:∀ d:Nat,(Op.equalIn (d+1) ti (.iface t a) (.iface u b)).run P w=.ok false w:=fun d=>by
  simp [Op.equalIn,run_underlying hi,hn]
 simp only [binOp]
 simp [Op.equal,Op.maxDepth,h 9999]
theorem wF:(prog.info? 192).map (·.comparable)=some true:=by kernel_rfl
theorem RW:(prog.info? 194).map (·.size)=some 1:=by kernel_rfl
theorem IY (a:Addr) (w:World):(binOp .eql 49 (.iface 192 (.pointer (some a))) (.iface 192 (.pointer (some a)))).run prog w=.ok (.bool true) w:=by
 have h1:=wF
 have h2:=RW
 cases hi:prog.info? 192 with
 | none=>rw [hi] at h1;cases h1
 | some i=>
  cases hj:prog.info? 194 with
  | none=>rw [hj] at h2;cases h2
  | some j=>
   rw [hi] at h1
   exact run_eql_iface_ptr_same w a underlying49 underlying192 hi (by simpa using h1) hj
theorem IZ (a:Value) (b:Value) (w:World):(binOp .eql 49 (.iface 112 a) (.iface 192 b)).run prog w=.ok (.bool false) w:=
 gU a b w underlying49 (by decide)
theorem Gn (a:Value) (b:Value) (w:World):(binOp .eql 49 (.iface 109 a) (.iface 192 b)).run prog w=.ok (.bool false) w:=
 gU a b w underlying49 (by decide)
theorem eU {b c:UInt8} {n:Int} (h:b≠c) (hc:(c.toNat:Int)=n):((b.toNat:Int)==n)=false:=by
 subst hc
 simp
 intro h'
 exact h (UInt8.toNat_inj.1 (by omega))
theorem bX.suf {x:Cx} {c:DC} {w:World} {v:DV} {rest:Bs} {e:Option EK} {buf:Bs} (h:bX x c w v rest e buf):rest <:+ x.T:=by
 obtain ⟨pre,hT,_⟩:=h.pos
 exact ⟨pre,hT.symm⟩
theorem qN (x:Cx) (hx:x.Ok) (c:DC) (dR:iU x c) (w:World) (v:DV) (b:UInt8) (rest:Bs) (e:Option EK) (buf:Bs) (h:bX x c w v (b::rest) e buf) :
  Calls prog 56 #[.pointer (some ⟨x.d,0,none⟩)] w fun e w'=>e=.returned (.tuple #[.int .u8 b.toNat,.bool true]) ∧
   ∃ v',bX x c w' v' rest none buf∧v'.nb=-1∧v'.bufv=v.bufv∧aK x.S0 w w'∧w'.heap.size=w.heap.size:=by
 have he:e=none:=by rcases h.fin with h|⟨_,h⟩;exact h;cases h
 subst he
 obtain ⟨un,hb,iW⟩:=h.inp
 rcases iW with ⟨hn,rfl⟩|⟨b',hn,hu⟩
 ·exact Gm x hx c dR w v b rest buf h hb hn
 ·cases hu
  exact Gk x hx c w v b rest rest buf h hb hn rfl
theorem vA (x:Cx) (hx:x.Ok) (c:DC) (dR:iU x c) (w:World) (v:DV) (e:Option EK) (buf:Bs) (h:bX x c w v [] e buf) :
  Calls prog 56 #[.pointer (some ⟨x.d,0,none⟩)] w fun e w'=>e=.returned (.tuple #[.int .u8 0,.bool false]) ∧
   ∃ v',bX x c w' v' [] (some (qK x.o.fails)) buf∧v'.nb=-1∧v'.bufv=v.bufv∧aK x.S0 w w'∧w'.heap.size=w.heap.size:=by
 have hn:v.nb=-1:=by
  obtain ⟨un,hb,iW⟩:=h.inp
  rcases iW with ⟨h1,h2⟩|⟨b,_,h2⟩
  ·exact h1
  ·cases h2
 rcases h.fin with he|⟨he,_⟩
 ·subst he
  exact X4 x hx c dR w v buf h
 ·subst he
  have tQ:∃ u t,v.err=.iface u t:=by
   have:=h.err
   unfold qK at this
   split at this<;>exact ⟨_,_,this⟩
  obtain ⟨u,t,tQ⟩:=tQ
  refine (X5 c x.d w v h.dec u t tQ).mono ?_
  rintro e w' ⟨rfl,rfl⟩
  exact ⟨rfl,v,h,hn,rfl,aK.refl _ _,rfl⟩
theorem gZ (x:Cx) (hx:x.Ok) (c:DC) (w:World) (v:DV) (b:UInt8) (rest:Bs) (buf:Bs) (h:bX x c w v rest none buf) (hn:v.nb=-1) (lI:(b::rest) <:+ x.T) :
  Calls prog 57 #[.pointer (some ⟨x.d,0,none⟩),.int .u8 b.toNat] w fun e w'=>e=.returned (.tuple #[]) ∧
   ∃ v',bX x c w' v' (b::rest) none buf∧v'.nb=b.toNat∧v'.bufv=v.bufv∧aK x.S0 w w'∧w'.heap.size=w.heap.size:=by
 obtain ⟨un,hb,iW⟩:=h.inp
 have T1:rest=un:=by
  rcases iW with ⟨_,h2⟩|⟨b,h1,h2⟩
  ·exact h2
  ·omega
 subst T1
 clear iW
 have hc:=h.dec.cell
 have hf:=h.dec.frozen
 obtain ⟨o1,o2,l1,l2⟩:=h.pos.bounds hx
 have bP:=UInt8.toNat_lt b
 have HX:=Lib.hid hx
 have HS:=Lib.hid h
 have HB:=Lib.hid hb
 have HN:=Lib.hid hn
 have HU:=Lib.hid lI
 obtain ⟨sb,sl,snb,serr,sline,sls,soff⟩:=v
 simp only at hn o1 o2 l1 l2
 clear h hx hb lI hn
 by_cases gN:b=10
 ·subst gN
  go_enter func57,ntmps57
  go_wp2
  go_end0
  have hd:=((HS.out.dec.set 21 (.int .i64 (sline-1))).set 18 (.int .i64 10)).set 23 (.int .i64 (soff-1))
  have hm:=(((aK.refl (fun k=>k=x.d) w).setCell (p:=⟨x.d,21,none⟩) (Or.inl rfl) (.int .i64 (sline-1))).setCell (p:=⟨x.d,18,none⟩) (Or.inl rfl) (.int .i64 10)).setCell (p:=⟨x.d,23,none⟩) (Or.inl rfl) (.int .i64 (soff-1))
  have wE:aK x.S0 w _:=hm.mono (fun _ _ h=>Or.inl h)
  refine ⟨rfl,⟨sb,sl,10,serr,sline-1,sls,soff-1⟩,HS.out.step HX.out hd wE ⟨rest,HB.out.mod hm (fun h=>HX.out.ne1 h.symm) (fun h=>HX.out.ne2 h.symm) (fun h=>HX.out.ne3 h.symm),Or.inr ⟨10,rfl,rfl⟩⟩ ?_ HS.out.err (Or.inl rfl) rfl,rfl,rfl,wE,by simp [World.setCell]⟩
  exact HS.out.pos.put HU.out HN.out _ rfl rfl (by simp) rfl
 ·have Gl:=X2 gN
  go_enter func57,ntmps57
  go_wp2
  go_end0
  have hd:=(HS.out.dec.set 18 (.int .i64 b.toNat)).set 23 (.int .i64 (soff-1))
  have hm:=((aK.refl (fun k=>k=x.d) w).setCell (p:=⟨x.d,18,none⟩) (Or.inl rfl) (.int .i64 b.toNat)).setCell (p:=⟨x.d,23,none⟩) (Or.inl rfl) (.int .i64 (soff-1))
  have wE:aK x.S0 w _:=hm.mono (fun _ _ h=>Or.inl h)
  refine ⟨rfl,⟨sb,sl,b.toNat,serr,sline,sls,soff-1⟩,HS.out.step HX.out hd wE ⟨rest,HB.out.mod hm (fun h=>HX.out.ne1 h.symm) (fun h=>HX.out.ne2 h.symm) (fun h=>HX.out.ne3 h.symm),Or.inr ⟨b,rfl,rfl⟩⟩ ?_ HS.out.err (Or.inl rfl) rfl,rfl,rfl,wE,by simp [World.setCell]⟩
  exact HS.out.pos.put HU.out HN.out _ rfl rfl (by simp [gN]) rfl
theorem bH (x:Cx) (hx:x.Ok) (c:DC) (dR:iU x c) (w:World) (v:DV) (b:UInt8) (rest:Bs) (e:Option EK) (buf:Bs) (h:bX x c w v (b::rest) e buf) :
  Calls prog 59 #[.pointer (some ⟨x.d,0,none⟩)] w fun e w'=>e=.returned (.tuple #[.int .u8 b.toNat,.bool true]) ∧
   ∃ v',bX x c w' v' rest none buf∧v'.nb=-1∧v'.bufv=v.bufv∧aK x.S0 w w'∧w'.heap.size=w.heap.size:=by
 have cN:=Lib.hid (qN x hx c dR w v b rest e buf h)
 clear h hx dR
 go_enter func59,ntmps59
 go_wp2_with fail
 refine cN.out.mono ?_
 rintro e w1 ⟨rfl,hq⟩
 have HQ:=Lib.hid hq
 clear hq cN
 go_wp2
 go_ret2
 exact ⟨rfl,HQ.out⟩
theorem bJ (x:Cx) (hx:x.Ok) (c:DC) (dR:iU x c) (w:World) (v:DV) (e:Option EK) (buf:Bs) (h:bX x c w v [] e buf) :
  Calls prog 59 #[.pointer (some ⟨x.d,0,none⟩)] w fun e w'=>e=.returned (.tuple #[.int .u8 0,.bool false]) ∧
   ∃ v',jP x c w' v' (bW x.o.fails)∧v'.bufv=v.bufv∧aK x.S0 w w':=by
 have cN:=Lib.hid (vA x hx c dR w v e buf h)
 have HX:=Lib.hid hx
 clear h hx dR
 go_enter func59,ntmps59
 go_wp2_with fail
 refine cN.out.mono ?_
 rintro e w1 ⟨rfl,v1,h1,iL,bP,eA,iR⟩
 have u7:=h1.dec.cell
 have KM:=h1.dec.frozen
 have tP:w1.cell? ⟨0,0,none⟩=some x.eofV:=by rw [←HX.out.eof];exact h1.base.cell HX.out.gB
 have T3:=h1.err
 have H1:=Lib.hid h1
 have fV:=Lib.hid bP
 have oJ:=Lib.hid eA
 have HE:=Lib.hid (fun k msg=>IX x.d c v1 (w1.drewN k) h1.dec msg)
 clear h1 bP eA iR iL cN
 have q1:=fun a w=>IY a w
 have q2:=fun a b w=>IZ a b w
 cases rT:x.o.fails
 ·have he:v1.err=x.eofV:=by rw [rT] at T3;exact T3
  clear T3
  go_wp2
  go_quiet (fail)
  go_wp2_with fail
  refine (HE.out _ _).mono ?_
  rintro e w2 ⟨rfl,n7⟩
  have FI:bO w2 x.d c v1:=by rw [n7];exact aJ.alloc (show aJ (w1.drewN _) _ _ _ from H1.out.dec) _
  have iA:aK x.S0 w w2:=by rw [n7];exact (oJ.out.drewN _).alloc _
  have tE:=FI.cell
  have sZ:=FI.frozen
  have HD2:=Lib.hid FI
  have wS:=Lib.hid iA
  have LB:=Lib.hid H1.out.base
  have dJ:Below x.B x.W0 w2:=by rw [n7];exact (cA LB.out _).alloc LB.out.size _
  have nK:=Lib.hid dJ
  clear n7 FI iA dJ u7 KM
  go_wp2
  go_ret2
  rw [show bW x.o.fails=.syn by rw [rT];rfl]
  exact ⟨rfl,{ v1 with err:=.iface 109 (.pointer (some ⟨w1.heap.size,0,none⟩)) },⟨nK.out.setCell HX.out.d _,HD2.out.set 20 _,⟨_,rfl⟩⟩,fV.out,wS.out.setCell (Or.inl (Or.inl rfl)) _⟩
 ·have he:v1.err=FD:=by rw [rT] at T3;exact T3
  clear T3
  go_wp2
  go_quiet (fail)
  go_wp2
  go_ret2
  rw [show bW x.o.fails=.own by rw [rT];rfl]
  exact ⟨rfl,v1,⟨cA H1.out.base _,H1.out.dec,he⟩,fV.out,oJ.out.drewN _⟩
structure Qt (x:Cx) (c:DC) (w:World) (v:DV) (rest:Bs) (buf:Bs) (w':World) (v':DV) (e':Option EK):Prop where
 rd:bX x c w' v' (aM rest) e' buf
 bufv:v'.bufv=v.bufv
 mod:aK x.S0 w w'
theorem xY (x:Cx) (hx:x.Ok) (c:DC) (dR:iU x c) (w:World) (v:DV) (rest:Bs) (e:Option EK) (buf:Bs) (h:bX x c w v rest e buf) :
  Calls prog 61 #[.pointer (some ⟨x.d,0,none⟩)] w fun en w'=>en=.returned (.tuple #[])∧∃ v' e',Qt x c w v rest buf w' v' e':=by
 have HX:=Lib.hid hx
 have HD:=Lib.hid dR
 have H:=Lib.hid h
 clear h hx dR
 go_enter func61,ntmps61
 go_wp2
 go_loopg [2,3] rest.length (fun k _ _ wr=>∃ v1 e1 rest1,rest1.length=k∧aM rest1=aM rest∧bX x c wr v1 rest1 e1 buf∧v1.bufv=v.bufv∧aK x.S0 w wr)
 case atStart=>exact ⟨v,e,rest,rfl,rfl,H.out,rfl,aK.refl _ _⟩
 case round=>
  obtain ⟨v1,e1,rest1,hk,Gp,h1,bP,eA⟩:=hrel
  cases rest1 with
  | nil=>
   have cN:=Lib.hid (vA x HX.out c HD.out wr v1 e1 buf h1)
   have Na:=Lib.hid Gp
   have fV:=Lib.hid bP
   have oJ:=Lib.hid eA
   clear h1 bP eA Gp hk
   go_wp2_with fail
   refine cN.out.mono ?_
   rintro e2 w2 ⟨rfl,v2,h2,gK,dJ,iA,KN⟩
   have H2:=Lib.hid h2
   have nK:=Lib.hid dJ
   have wS:=Lib.hid iA
   clear h2 dJ iA KN gK cN
   go_wp2
   (try simp only [Exit.inBlock,Exit.then]);refine bodyPost_ret (results_none rfl _ _ _) rfl ?_
   exact ⟨rfl,v2,_,by rw [←Na.out];exact H2.out,nK.out.trans fV.out,oJ.out.trans wS.out (fun _ _ h=>h)⟩
  | cons b r=>
   have cN:=Lib.hid (qN x HX.out c HD.out wr v1 b r e1 buf h1)
   have Na:=Lib.hid Gp
   have fV:=Lib.hid bP
   have oJ:=Lib.hid eA
   have HK:=Lib.hid hk
   have kC:=Lib.hid h1.suf
   clear h1 bP eA Gp hk
   by_cases mX:nO b=true
   ·have hb:b=32∨b=13∨b=10∨b=9:=by
     simpa [nO,or_assoc] using mX
    have Qu:Hid (aM r=aM rest):=by
     have:=Na.out
     rw [aM,if_pos mX] at this
     exact this
    clear mX
    rcases hb with rfl|rfl|rfl|rfl
    all_goals
     go_wp2_with fail
     refine cN.out.mono ?_
     rintro e2 w2 ⟨rfl,v2,h2,gK,dJ,iA,KN⟩
     have H2:=Lib.hid h2
     have nK:=Lib.hid dJ
     have wS:=Lib.hid iA
     clear h2 dJ iA KN gK cN
     go_wp2
     go_roundg r.length
     case measure=>have:=HK.out;simp at this;omega
     case rel=>exact ⟨v2,none,r,rfl,Qu.out,H2.out,nK.out.trans fV.out,oJ.out.trans wS.out (fun _ _ h=>h)⟩
   ·have hb:b≠32∧b≠13∧b≠10∧b≠9:=by
     refine ⟨?_,?_,?_,?_⟩<;>(intro h;subst h;exact mX rfl)
    have Qu:Hid (aM rest=b::r):=by
     have:=Na.out
     rw [aM,if_neg mX] at this
     exact this.symm
    have t1:((b.toNat:Int)==32)=false:=eU hb.1 rfl
    have t2:((b.toNat:Int)==13)=false:=eU hb.2.1 rfl
    have t3:((b.toNat:Int)==10)=false:=eU hb.2.2.1 rfl
    have t4:((b.toNat:Int)==9)=false:=eU hb.2.2.2 rfl
    clear mX hb
    go_wp2_with fail
    refine cN.out.mono ?_
    rintro e2 w2 ⟨rfl,v2,h2,gK,dJ,iA,KN⟩
    have iW:=Lib.hid (gZ x HX.out c w2 v2 b r buf h2 gK kC.out)
    have nK:=Lib.hid dJ
    have wS:=Lib.hid iA
    clear h2 dJ iA KN gK cN
    go_wp2_with fail
    refine iW.out.mono ?_
    rintro e3 w3 ⟨rfl,v3,h3,O8,l9,cD,Nb⟩
    have H3:=Lib.hid h3
    have lJ:=Lib.hid l9
    have fM:=Lib.hid cD
    clear h3 l9 cD Nb O8 iW
    go_wp2
    (try simp only [Exit.inBlock,Exit.then]);refine bodyPost_ret (results_none rfl _ _ _) rfl ?_
    exact ⟨rfl,v3,none,by rw [Qu.out];exact H3.out,lJ.out.trans (nK.out.trans fV.out),(oJ.out.trans wS.out (fun _ _ h=>h)).trans fM.out (fun _ _ h=>h)⟩
theorem bX.buf {x:Cx} (hx:x.Ok) {c:DC} {w w':World} {v v':DV} {rest:Bs} {e:Option EK} {buf buf':Bs} (h:bX x c w v rest e buf) (dec:bO w' x.d c v') (hm:aK (fun k=>k=x.d∨dQ v.bufv k) w w')
  (h1:v'.nb=v.nb) (h2:v'.err=v.err) (h3:v'.line=v.line) (h4:v'.lstart=v.lstart) (h5:v'.off=v.off) (bf:nL x w' v'.bufv buf'):bX x c w' v' rest e buf':=by
 have hs:∀ k,x.Sio k→¬ (k=x.d∨dQ v.bufv k):=by
  intro k hk yV
  rcases yV with yV|yV
  ·subst yV
   rcases hk with h|h|h
   ·exact hx.ne1 h
   ·exact hx.ne2 h
   ·exact hx.ne3 h
  ·exact h.bf.notS0 k yV (Or.inr hk)
 refine ⟨aK.below h.base h.base.size hm ?_,dec,?_,?_,by rw [h2];exact h.err,h.fin,bf⟩
 ·intro i hi
  rcases hi with hi|hi
  ·subst hi;exact hx.d
  ·rcases h.bf with ⟨hv,_⟩|⟨g,cap,arr,hv,_,_,_,_,hg,_,_⟩
   ·rw [hv] at hi;exact hi.elim
   ·rw [hv] at hi
    have:i=g:=hi
    omega
 ·obtain ⟨un,hb,iW⟩:=h.inp
  exact ⟨un,hb.mod hm (hs _ (Or.inl rfl)) (hs _ (Or.inr (Or.inl rfl))) (hs _ (Or.inr (Or.inr rfl))),by rw [h1];exact iW⟩
 ·obtain ⟨pre,a,b,c',d⟩:=h.pos
  exact ⟨pre,a,by rw [h5];exact b,by rw [h3];exact c',by rw [h1,h4];exact d⟩
theorem rV (x:Cx) (hx:x.Ok) (c:DC) (w:World) (v:DV) (rest:Bs) (e:Option EK) (buf:Bs) (h:bX x c w v rest e buf) :
  Calls prog 63 #[.pointer (some ⟨x.d,7,none⟩)] w fun en w'=>en=.returned (.tuple #[])∧∃ v',bX x c w' v' rest e []∧v'.nb=v.nb∧(∀ k,dQ v'.bufv k↔dQ v.bufv k)∧aK x.S0 w w'∧w'.heap.size=w.heap.size:=by
 have hc:=h.dec.cell
 have hf:=h.dec.frozen
 have HX:=Lib.hid hx
 have H:=Lib.hid h
 obtain ⟨sb,sl,snb,serr,sline,sls,soff⟩:=v
 have T4:=h.bf
 clear h hx
 rcases T4 with ⟨hv,hb⟩|⟨g,cap,arr,hv,hg,gE,hl,wT,F3,CX,oB⟩
 ·simp only at hv
  subst hv
  go_enter func63,ntmps63
  go_wp2
  go_end0
  have hd:=((H.out.dec.set 7 (.slice none 0 0)).set 8 (.int .i64 0)).set 9 (.int .i8 0)
  have hm:=(((aK.refl (fun k=>k=x.d) w).setCell (p:=⟨x.d,7,none⟩) (Or.inl rfl) (.slice none 0 0)).setCell (p:=⟨x.d,8,none⟩) (Or.inl rfl) (.int .i64 0)).setCell (p:=⟨x.d,9,none⟩) (Or.inl rfl) (.int .i8 0)
  exact ⟨rfl,⟨.slice none 0 0,0,snb,serr,sline,sls,soff⟩,H.out.buf HX.out hd (hm.mono (fun _ _ h=>Or.inl h)) rfl rfl rfl rfl rfl (Or.inl ⟨rfl,rfl⟩),rfl,fun k=>Iff.rfl,hm.mono (fun _ _ h=>Or.inl h),by simp [World.setCell]⟩
 ·simp only at hv
  subst hv
  have HG:=Lib.hid hg
  have xG:=Lib.hid oB
  clear hg oB
  go_enter func63,ntmps63
  go_wp2
  go_end0
  have hd:=((H.out.dec.set 7 (.slice (some ⟨g,0,none⟩) 0 cap)).set 8 (.int .i64 0)).set 9 (.int .i8 0)
  have hm:=(((aK.refl (fun k=>k=x.d) w).setCell (p:=⟨x.d,7,none⟩) (Or.inl rfl) (.slice (some ⟨g,0,none⟩) 0 cap)).setCell (p:=⟨x.d,8,none⟩) (Or.inl rfl) (.int .i64 0)).setCell (p:=⟨x.d,9,none⟩) (Or.inl rfl) (.int .i8 0)
  have yU:g≠x.d:=fun h=>CX (Or.inl h)
  exact ⟨rfl,⟨.slice (some ⟨g,0,none⟩) 0 cap,0,snb,serr,sline,sls,soff⟩,H.out.buf HX.out hd (hm.mono (fun _ _ h=>Or.inl h)) rfl rfl rfl rfl rfl
   (Or.inr ⟨g,cap,arr,rfl,((HG.out.set_ne yU _).set_ne yU _).set_ne yU _,gE,Nat.zero_le _,wT,F3,CX,fun j hj=>by simp at hj⟩),rfl,fun k=>Iff.rfl,hm.mono (fun _ _ h=>Or.inl h),by simp [World.setCell]⟩
theorem nS (x:Cx) (c:DC) (w:World) (v:DV) (rest:Bs) (e:Option EK) (buf:Bs) (h:bX x c w v rest e buf) :
  Calls prog 65 #[.pointer (some ⟨x.d,7,none⟩)] w fun en w'=>en=.returned v.bufv∧∃ k,w'=w.drewN k:=by
 have hc:=h.dec.cell
 have hf:=h.dec.frozen
 have T4:=h.bf
 obtain ⟨sb,sl,snb,serr,sline,sls,soff⟩:=v
 clear h
 rcases T4 with ⟨hv,hb⟩|⟨g,cap,arr,hv,hg,gE,hl,wT,F3,CX,oB⟩
 all_goals
  simp only at hv
  subst hv
  try clear hg oB F3 CX
  go_enter func65,ntmps65
  go_wp2
  go_quiet (fail)
  go_wp2
  go_ret
  exact ⟨rfl,_,rfl⟩
theorem F4 (x:Cx) (c:DC) (w:World) (v:DV) (rest:Bs) (e:Option EK) (buf:Bs) (h:bX x c w v rest e buf) :
  Calls prog 70 #[.pointer (some ⟨x.d,7,none⟩)] w fun en w'=>en=.returned (.int .i64 buf.length)∧∃ k,w'=w.drewN k:=by
 have hc:=h.dec.cell
 have hf:=h.dec.frozen
 have T4:=h.bf
 obtain ⟨sb,sl,snb,serr,sline,sls,soff⟩:=v
 clear h
 rcases T4 with ⟨hv,hb⟩|⟨g,cap,arr,hv,hg,gE,hl,wT,F3,CX,oB⟩
 ·simp only at hv
  subst hv hb
  go_enter func70,ntmps70
  go_wp2
  go_quiet (fail)
  go_wp2
  go_ret
  exact ⟨rfl,_,rfl⟩
 ·simp only at hv
  subst hv
  have y8:(buf.length:Int)≤9223372036854775807:=by omega
  clear hg oB F3 CX
  go_enter func70,ntmps70
  go_wp2
  go_quiet (fail)
  go_wp2
  go_ret
  exact ⟨by simp,_,rfl⟩
theorem AS (d:Nat) (c:DC) (v:DV) (w:World) (h:bO w d c v) (g len cap n:Nat) (hv:v.bufv=.slice (some ⟨g,0,none⟩) len cap) (hn:len+n≤cap) (hc:cap≤9223372036854775807) :
  Calls prog 97 #[.pointer (some ⟨d,7,none⟩),.int .i64 n] w fun en w'=>en=.returned (.tuple #[.int .i64 len,.bool true])∧w'=w.setCell ⟨d,7,none⟩ (.slice (some ⟨g,0,none⟩) (len+n) cap):=by
 have hce:=h.cell
 have hf:=h.frozen
 obtain ⟨sb,sl,snb,serr,sline,sls,soff⟩:=v
 simp only at hv
 subst hv
 clear h
 have h1:(n:Int)≤(cap:Int)-(len:Int):=by omega
 have h2:(len:Int)+(n:Int)≤(cap:Int):=by omega
 go_enter func97,ntmps97
 go_wp2
 go_ret2
 exact ⟨rfl,rfl⟩
theorem rW (d:Nat) (c:DC) (v:DV) (w:World) (h:bO w d c v) (a:Option Addr) (len cap n:Nat) (hv:v.bufv=.slice a len cap) (hl:len≤cap) (hn:cap<len+n) (hc:cap≤9223372036854775807) :
  Calls prog 97 #[.pointer (some ⟨d,7,none⟩),.int .i64 n] w fun en w'=>en=.returned (.tuple #[.int .i64 0,.bool false])∧w=w':=by
 have hce:=h.cell
 have hf:=h.frozen
 obtain ⟨sb,sl,snb,serr,sline,sls,soff⟩:=v
 simp only at hv
 subst hv
 clear h
 have h1:¬ ((n:Int)≤(cap:Int)-(len:Int)):=by omega
 go_enter func97,ntmps97
 go_wp2
 go_ret2
 exact ⟨rfl,rfl⟩
end Go.Proofs.YtdjdjbpnbjdaaaaGreatDoor
namespace Go.Proofs
open Go.Shelf Tryz
def Tryz.lays137_ren:Go.Shelf.Ren:=⟨fun|137=>100|217=>116|266=>130|n=>n,fun|9=>9|5=>5|3=>3|n=>n,fun|n=>n⟩
theorem Tryz.lays137:Go.Proofs.Lays.n137 prog Tryz.lays137_ren:={
 mixed:=by kernel_rfl
 f137:=func100.trans (congrArg some (by kernel_rfl))
 f217:=func116.trans (congrArg some (by kernel_rfl))
 f266:=func130.trans (congrArg some (by kernel_rfl))
 t3:=underlying3
 a3:=Tryz.isAgg3
 z3:=Tryz.sizeOf3
 v3:=Tryz.zeroValue3
 t5:=underlying5
 a5:=Tryz.isAgg5
 z5:=Tryz.sizeOf5
 v5:=Tryz.zeroValue5
 t9:=underlying9
 a9:=Tryz.isAgg9
 z9:=Tryz.sizeOf9
 v9:=Tryz.zeroValue9 }
open Go.RowKit in
theorem Tryz.strings_IndexByte (s:ByteArray) (c:Int) (w:World) :
  Calls prog 100 #[.string s,.int .u8 c] w fun e w'=>e=.returned (.int .i64 (Lib.indexByte s.data.toList c.toNat.toUInt8))∧w'=w:=Any.strings_IndexByte Tryz.lays137 s c w
def Tryz.laysM290_ren:Go.Shelf.Ren:=⟨fun|290=>115|324=>129|n=>n,fun|37=>77|3=>3|0=>0|4=>4|20=>20|75=>49|5=>5|80=>128|9=>9|n=>n,fun|14=>2|n=>n⟩
theorem Tryz.laysM290:Go.Proofs.LaysM.n290 prog Tryz.laysM290_ren:={
 mixed:=by kernel_rfl
 f290:=func115.trans (congrArg some (by kernel_rfl))
 f324:=func129.trans (congrArg some (by kernel_rfl))
 t0:=underlying0
 a0:=Tryz.isAgg0
 z0:=Tryz.sizeOf0
 v0:=Tryz.zeroValue0
 t3:=underlying3
 a3:=Tryz.isAgg3
 z3:=Tryz.sizeOf3
 v3:=Tryz.zeroValue3
 t4:=underlying4
 a4:=Tryz.isAgg4
 z4:=Tryz.sizeOf4
 v4:=Tryz.zeroValue4
 t20:=underlying20
 a20:=Tryz.isAgg20
 z20:=Tryz.sizeOf20
 v20:=Tryz.zeroValue20
 t37:=underlying77
 a37:=Tryz.isAgg77
 z37:=Tryz.sizeOf77
 v37:=Tryz.zeroValue77
 t75:=underlying49
 a75:=Tryz.isAgg49
 z75:=Tryz.sizeOf49
 v75:=Tryz.zeroValue49
 g14:=by kernel_rfl
 t5:=underlying5
 a5:=Tryz.isAgg5
 z5:=Tryz.sizeOf5
 v5:=Tryz.zeroValue5
 t9:=underlying9
 a9:=Tryz.isAgg9
 z9:=Tryz.sizeOf9
 v9:=Tryz.zeroValue9
 t80:=underlying128
 a80:=Tryz.isAgg128
 z80:=Tryz.sizeOf128
 v80:=Tryz.zeroValue128
 i0:=by kernel_rfl
 i3:=by kernel_rfl
 i4:=by kernel_rfl
 i5:=by kernel_rfl
 i9:=by kernel_rfl
 i20:=by kernel_rfl
 i37:=by kernel_rfl
 i75:=by kernel_rfl
 i80:=by kernel_rfl
 m14:=by kernel_rfl }
open Go.RowKit in
theorem Tryz.bytes_growSlice_row (g l c n:Nat) (cur:Array Value) (w:World) (hg:w.heap[g]?=some (.cells cur 5 (0,0))) (vO:cur.size=c) (yW:l≤c) (hn:1≤n) (kY:l+n≤140737488355328) (tE:c≤140737488355328) (h1:∀ v∈cur.toList.take l,v.oneCell'=true) :
  Calls prog 115 #[.slice (some ⟨g,0,none⟩) l c,.int .i64 n] w fun e w'=>∃ cap2 cells,e=.returned (.slice (some ⟨w.heap.size,0,none⟩) l cap2)∧w'.heap[w.heap.size]?=some (.cells cells 5 (0,0)) ∧
   cells.size=cap2∧cells.toList.take l=cur.toList.take l∧l+n≤cap2∧cap2≤maxLen∧Below w.heap.size w w':=Any.bytes_growSlice_row Tryz.laysM290 g l c n cur w hg vO yW hn kY tE h1
def Tryz.lays164_ren:Go.Shelf.Ren:=⟨fun|164=>68|197=>101|239=>102|260=>117|274=>118|275=>119|n=>n,fun|9=>9|4=>4|3=>3|5=>5|0=>0|21=>21|105=>184|156=>222|49=>221|157=>223|46=>169|159=>225|162=>228|160=>226|119=>250|139=>253|138=>252|208=>257|51=>243|206=>255|n=>n,fun|11=>3|12=>4|13=>5|3=>6|4=>7|n=>n⟩
theorem Tryz.lays164:Go.Proofs.Lays.n164 prog Tryz.lays164_ren:={
 mixed:=by kernel_rfl
 f164:=func68.trans (congrArg some (by kernel_rfl))
 f197:=func101.trans (congrArg some (by kernel_rfl))
 f239:=func102.trans (congrArg some (by kernel_rfl))
 f260:=func117.trans (congrArg some (by kernel_rfl))
 f274:=func118.trans (congrArg some (by kernel_rfl))
 f275:=func119.trans (congrArg some (by kernel_rfl))
 t0:=underlying0
 a0:=Tryz.isAgg0
 z0:=Tryz.sizeOf0
 v0:=Tryz.zeroValue0
 t3:=underlying3
 a3:=Tryz.isAgg3
 z3:=Tryz.sizeOf3
 v3:=Tryz.zeroValue3
 t4:=underlying4
 a4:=Tryz.isAgg4
 z4:=Tryz.sizeOf4
 v4:=Tryz.zeroValue4
 t5:=underlying5
 a5:=Tryz.isAgg5
 z5:=Tryz.sizeOf5
 v5:=Tryz.zeroValue5
 t9:=underlying9
 a9:=Tryz.isAgg9
 z9:=Tryz.sizeOf9
 v9:=Tryz.zeroValue9
 t21:=underlying21
 a21:=Tryz.isAgg21
 z21:=Tryz.sizeOf21
 v21:=Tryz.zeroValue21
 t46:=underlying169
 a46:=Tryz.isAgg169
 z46:=Tryz.sizeOf169
 v46:=Tryz.zeroValue169
 t49:=underlying221
 a49:=Tryz.isAgg221
 z49:=Tryz.sizeOf221
 v49:=Tryz.zeroValue221
 t51:=underlying243
 a51:=Tryz.isAgg243
 z51:=Tryz.sizeOf243
 v51:=Tryz.zeroValue243
 t105:=underlying184
 a105:=Tryz.isAgg184
 z105:=Tryz.sizeOf184
 v105:=Tryz.zeroValue184
 t119:=underlying250
 a119:=Tryz.isAgg250
 z119:=Tryz.sizeOf250
 t138:=underlying252
 a138:=Tryz.isAgg252
 z138:=Tryz.sizeOf252
 v138:=Tryz.zeroValue252
 t139:=underlying253
 a139:=Tryz.isAgg253
 z139:=Tryz.sizeOf253
 v139:=Tryz.zeroValue253
 t156:=underlying222
 a156:=Tryz.isAgg222
 z156:=Tryz.sizeOf222
 t157:=underlying223
 a157:=Tryz.isAgg223
 z157:=Tryz.sizeOf223
 v157:=Tryz.zeroValue223
 t159:=underlying225
 a159:=Tryz.isAgg225
 z159:=Tryz.sizeOf225
 v159:=Tryz.zeroValue225
 t160:=underlying226
 a160:=Tryz.isAgg226
 z160:=Tryz.sizeOf226
 v160:=Tryz.zeroValue226
 t162:=underlying228
 a162:=Tryz.isAgg228
 z162:=Tryz.sizeOf228
 v162:=Tryz.zeroValue228
 t206:=underlying255
 a206:=Tryz.isAgg255
 z206:=Tryz.sizeOf255
 v206:=Tryz.zeroValue255
 t208:=underlying257
 a208:=Tryz.isAgg257
 z208:=Tryz.sizeOf257
 v208:=Tryz.zeroValue257
 g3:=by kernel_rfl
 g4:=by kernel_rfl
 g11:=by kernel_rfl
 g12:=by kernel_rfl
 g13:=by kernel_rfl }
open Go.RowKit Go.Lib in
theorem Tryz.strings_EqualFold (s t:ByteArray) (w:World) (hs:s.size<4294967281) (has:∀ (j:Nat) b,s.data.toList[j]?=some b→b.toNat<128) (qG:∀ (j:Nat) b,t.data.toList[j]?=some b→b.toNat<128) :
  Calls prog 68 #[.string s,.string t] w fun e w'=>e=.returned (.bool (Lib.equalFold s.data.toList t.data.toList))∧w'=w:=Any.strings_EqualFold Tryz.lays164 s t w hs has qG
def Tryz.lays197_ren:Go.Shelf.Ren:=⟨fun|197=>101|260=>117|n=>n,fun|9=>9|21=>21|3=>3|4=>4|5=>5|105=>184|119=>250|0=>0|46=>169|139=>253|138=>252|n=>n,fun|3=>6|4=>7|n=>n⟩
theorem Tryz.lays197:Go.Proofs.Lays.n197 prog Tryz.lays197_ren:={
 mixed:=by kernel_rfl
 f197:=func101.trans (congrArg some (by kernel_rfl))
 f260:=func117.trans (congrArg some (by kernel_rfl))
 t0:=underlying0
 a0:=Tryz.isAgg0
 z0:=Tryz.sizeOf0
 v0:=Tryz.zeroValue0
 t3:=underlying3
 a3:=Tryz.isAgg3
 z3:=Tryz.sizeOf3
 v3:=Tryz.zeroValue3
 t4:=underlying4
 a4:=Tryz.isAgg4
 z4:=Tryz.sizeOf4
 v4:=Tryz.zeroValue4
 t5:=underlying5
 a5:=Tryz.isAgg5
 z5:=Tryz.sizeOf5
 v5:=Tryz.zeroValue5
 t9:=underlying9
 a9:=Tryz.isAgg9
 z9:=Tryz.sizeOf9
 v9:=Tryz.zeroValue9
 t21:=underlying21
 a21:=Tryz.isAgg21
 z21:=Tryz.sizeOf21
 v21:=Tryz.zeroValue21
 t46:=underlying169
 a46:=Tryz.isAgg169
 z46:=Tryz.sizeOf169
 v46:=Tryz.zeroValue169
 t105:=underlying184
 a105:=Tryz.isAgg184
 z105:=Tryz.sizeOf184
 v105:=Tryz.zeroValue184
 t119:=underlying250
 a119:=Tryz.isAgg250
 z119:=Tryz.sizeOf250
 t138:=underlying252
 a138:=Tryz.isAgg252
 z138:=Tryz.sizeOf252
 v138:=Tryz.zeroValue252
 t139:=underlying253
 a139:=Tryz.isAgg253
 z139:=Tryz.sizeOf253
 v139:=Tryz.zeroValue253
 g3:=by kernel_rfl
 g4:=by kernel_rfl }
open Go.RowKit Go.Lib in
theorem Tryz.utf8_DecodeRuneInString (s:ByteArray) (w:World) (hT:Lib.Utf8Tabs 6 7 w) :
  Calls prog 101 #[.string s] w fun e w'=>e=.returned (.tuple #[.int .i32 (Lib.decodeGo s).1,.int .i64 (Lib.decodeGo s).2])∧Below w.heap.size w w':=Any.utf8_DecodeRuneInString Tryz.lays197 s w hT
def Tryz.laysGn14_ren:Go.Shelf.Ren:=⟨fun|14=>111|25=>127|26=>128|n=>n,fun|22=>218|21=>21|4=>4|0=>0|31=>242|28=>239|3=>3|32=>243|35=>245|33=>221|29=>240|38=>248|41=>261|42=>169|43=>262|n=>n,fun|n=>n⟩
theorem Tryz.laysGn14:Go.Proofs.LaysGn.n14 prog Tryz.laysGn14_ren:={
 mixed:=by kernel_rfl
 f14:=func111.trans (congrArg some (by kernel_rfl))
 f25:=func127.trans (congrArg some (by kernel_rfl))
 f26:=func128.trans (congrArg some (by kernel_rfl))
 t0:=underlying0
 a0:=Tryz.isAgg0
 z0:=Tryz.sizeOf0
 v0:=Tryz.zeroValue0
 i0:=by kernel_rfl
 t3:=underlying3
 a3:=Tryz.isAgg3
 z3:=Tryz.sizeOf3
 v3:=Tryz.zeroValue3
 i3:=by kernel_rfl
 t4:=underlying4
 a4:=Tryz.isAgg4
 z4:=Tryz.sizeOf4
 v4:=Tryz.zeroValue4
 i4:=by kernel_rfl
 t21:=underlying21
 a21:=Tryz.isAgg21
 z21:=Tryz.sizeOf21
 v21:=Tryz.zeroValue21
 i21:=by kernel_rfl
 t22:=underlying218
 a22:=Tryz.isAgg218
 z22:=Tryz.sizeOf218
 v22:=Tryz.zeroValue218
 i22:=by kernel_rfl
 t28:=underlying239
 a28:=Tryz.isAgg239
 z28:=Tryz.sizeOf239
 v28:=Tryz.zeroValue239
 i28:=by kernel_rfl
 t29:=underlying240
 a29:=Tryz.isAgg240
 z29:=Tryz.sizeOf240
 v29:=Tryz.zeroValue240
 i29:=by kernel_rfl
 t31:=underlying242
 a31:=Tryz.isAgg242
 z31:=Tryz.sizeOf242
 v31:=Tryz.zeroValue242
 i31:=by kernel_rfl
 t32:=underlying243
 a32:=Tryz.isAgg243
 z32:=Tryz.sizeOf243
 v32:=Tryz.zeroValue243
 i32:=by kernel_rfl
 t33:=underlying221
 a33:=Tryz.isAgg221
 z33:=Tryz.sizeOf221
 v33:=Tryz.zeroValue221
 i33:=by kernel_rfl
 t35:=underlying245
 a35:=Tryz.isAgg245
 z35:=Tryz.sizeOf245
 v35:=Tryz.zeroValue245
 i35:=by kernel_rfl
 t38:=underlying248
 a38:=Tryz.isAgg248
 z38:=Tryz.sizeOf248
 v38:=Tryz.zeroValue248
 i38:=by kernel_rfl
 t41:=underlying261
 a41:=Tryz.isAgg261
 z41:=Tryz.sizeOf261
 v41:=Tryz.zeroValue261
 i41:=by kernel_rfl
 t42:=underlying169
 a42:=Tryz.isAgg169
 z42:=Tryz.sizeOf169
 v42:=Tryz.zeroValue169
 i42:=by kernel_rfl
 t43:=underlying262
 a43:=Tryz.isAgg262
 z43:=Tryz.sizeOf262
 v43:=Tryz.zeroValue262
 i43:=by kernel_rfl }
open Go.RowKit Go.Lib in
theorem Tryz.unicode_Is_any (Tb oT:Nat) (T:RTab) (r:Int) (w:World) (hlo:-2147483648≤r) (Zh:r≤2147483647) (hA:RTabAt Tb oT T w) (pB:RTabOk T) :
  Calls prog 111 #[.pointer (some ⟨Tb,oT,none⟩),.int .i32 r] w fun e w'=>e=.returned (.bool (isGo T r))∧Below w.heap.size w w':=Any.unicode_Is_any Tryz.laysGn14 Tb oT T r w hlo Zh hA pB
end Go.Proofs
namespace Go.Proofs.YtdjdjbpnbjdaaaaGreatDoor
open Go Go.RowKit Tryz
structure CY (x:Cx) (c:DC) (w:World) (v:DV) (buf:Bs) (n:Nat) (w':World) (g cap:Nat) (arr:Array Value):Prop where
 dec:bO w' x.d c { v with bufv:=.slice (some ⟨g,0,none⟩) (buf.length+n) cap }
 blk:aJ w' g arr 5
 sz:arr.size=cap
 cp:buf.length+n≤cap
 cm:cap≤9223372036854775807
 new:w.heap.size≤g
 el:∀ j,j<buf.length→arr[j]?=some (.int .u8 (buf.getD j 0).toNat)
 mod:aK (fun k=>k=x.d) w w'
theorem Nc:(prog.info? 5).map (fun i=>(i.zero,i.size,i.bytes))=some (some (.int .u8 0),1,1):=by kernel_rfl
theorem a3U (n:Nat) (hn:n≤64) (w:World):(Instr.makeSlice 77 (.int .i64 n) (.int .i64 64)).run prog w=.ok (.slice (some ⟨w.heap.size,0,none⟩) n 64) (w.alloc (.cells (madeCells #[.int .u8 0] 64) 5)):=by
 obtain ⟨i,hi,hz,h1,h2⟩:=info_parts Nc
 have:=run_make w 77 5 i (.int .u8 0) underlying77 hi hz .i64 .i64 n 64 (by omega) (by omega) (by rw [h2];omega) (by omega)
 rw [h1] at this
 simpa [Value.cells] using this
theorem X6 (x:Cx) (hx:x.Ok) (c:DC) (w:World) (v:DV) (rest:Bs) (e:Option EK) (h:bX x c w v rest e []) (hv:v.bufv=.slice none 0 0) (n:Nat) (hn:1≤n) (gK:n≤64) :
  Calls prog 98 #[.pointer (some ⟨x.d,7,none⟩),.int .i64 n] w fun en w'=>en=.returned (.int .i64 0)∧∃ g cap arr,CY x c w v [] n w' g cap arr:=by
 have hc:=h.dec.cell
 have hf:=h.dec.frozen
 have bF:=Lib.hid (F4 x c w v rest e [] h)
 have HX:=Lib.hid hx
 have H:=Lib.hid h
 have Qv:=Lib.hid (fun k=>rW x.d c v (w.drewN k) h.dec none 0 0 n hv (by omega) (by omega) (by omega))
 obtain ⟨sb,sl,snb,serr,sline,sls,soff⟩:=v
 simp only at hv
 subst hv
 clear h hx
 have h1:(n:Int)≤64:=by omega
 go_enter func98,ntmps98
 go_wp2_with fail
 refine bF.out.mono ?_
 rintro e1 w1 ⟨rfl,k,rfl⟩
 go_wp2_with fail
 refine (Qv.out _).mono ?_
 rintro e2 w2 ⟨rfl,rfl⟩
 have WW:∀ o,(w.drewN k).cell? ⟨x.d,o,none⟩=(rP c ⟨.slice none 0 0,sl,snb,serr,sline,sls,soff⟩)[o]?:=hc
 have hf':∀ o,(w.drewN k).frozen? ⟨x.d,o,none⟩=false:=hf
 have a3V:=fun (w:World) (a:Option Addr) (n c:Nat)=>Lib.run_eql_slice_nil (P:=prog) w 77 5 a n c 0 0 underlying77
 have hmk:=a3U n gK
 have X7:bO ((w.drewN k).alloc (.cells (madeCells #[.int .u8 0] 64) 5)) x.d c ⟨.slice none 0 0,sl,snb,serr,sline,sls,soff⟩:=aJ.alloc (show aJ (w.drewN k) _ _ _ from H.out.dec) _
 have wG:=X7.cell
 have FJ:=X7.frozen
 have Xp:=Lib.hid X7
 clear X7
 go_wp2
 go_ret
 have hm:=((((aK.refl (fun k=>k=x.d) w).drewN k).alloc (.cells (madeCells #[.int .u8 0] 64) 5)).setCell (p:=⟨x.d,7,none⟩) (Or.inl rfl) (.slice (some ⟨w.heap.size,0,none⟩) n 64))
 have yU:w.heap.size≠x.d:=fun h=>by have:=H.out.dec.lt;omega
 refine ⟨rfl,w.heap.size,64,madeCells #[.int .u8 0] 64,?_,?_,size_madeCells _ _,by simp;omega,by omega,Nat.le_refl _,fun j hj=>by simp at hj,hm⟩
 ·have:=Xp.out.set 7 (.slice (some ⟨w.heap.size,0,none⟩) n 64)
  rw [show ([]:Bs).length+n=n by simp]
  exact this
 ·exact (show aJ ((w.drewN k).alloc (.cells (madeCells #[.int .u8 0] 64) 5)) w.heap.size _ _ from aJ.new (w.drewN k) _ _).set_ne yU _
end Go.Proofs.YtdjdjbpnbjdaaaaGreatDoor
