/- Part of the proof that laws.FnRawTokens returns true for every argument. No conditions. -/
import Derived.Test.YtdjdjbpnbjdaaaaGreatDoorP02
import Derived.Deep.RegionHeld3
import Derived.Lib.IndexBytes
set_option linter.all false
set_option maxHeartbeats 8000000
set_option maxRecDepth 100000
namespace Go.Proofs.YtdjdjbpnbjdaaaaGreatDoor
open Go Go.RowKit Tryz
@[go_sem] def jA (x:Cx) (r q:Int) (e:Value) (lb:Int):Array Value:=#[.slice (some ⟨x.rb,0,none⟩) 4096 4096,.iface 44 (.pointer (some ⟨x.rd,0,none⟩)),.int .i64 r,.int .i64 q,e,.int .i64 lb,.int .i64 (-1)]
theorem IS (x:Cx) (hx:x.Ok) (w:World) (hb:Below x.B x.W0 w) (n:Nat) (s:ByteArray) (hs:s.toList.isEmpty=false) (arr:Array Value) (iH:aJ w x.rd (AP x s n) 46) (oZ:aJ w x.rb arr 5) (gE:arr.size=4096)
   (pA:s.size ≤ 1000000000) (hn:n ≤ 1000000000) :
    Calls prog 164 #[.pointer (some ⟨x.rd,0,none⟩),.slice (some ⟨x.rb,0,none⟩) 4096 4096] w fun e w'=>∃ m:Nat,e=.returned (.tuple #[.int .i64 m,.nilIface])∧O0 x w s n arr m w':=by
  rcases Nat.eq_zero_or_pos x.pcN with h0|h0
  · exact XU x w n s hs arr iH oZ gE h0 pA hx.ne6
  · obtain ⟨pb,po,hp,IT,hc⟩:=hx.pc h0
    have hv:w.cell? ⟨pb,po + n % x.pcN,none⟩=some (.int .i64 (x.pcs.getD (n % x.pcN) 0)):=by
      rw [← hc _ (Nat.mod_lt _ h0)];exact hb.cell IT
    generalize x.pcs.getD (n % x.pcN) 0=p at hv
    by_cases h1:p ≤ 1
    · exact y6 x w n s hs arr iH oZ gE pb po h0 hp hx.pcN p hv 1 (by omega) pA hn hx.ne6
    · by_cases h2:p < 4096
      · exact y6 x w n s hs arr iH oZ gE pb po h0 hp hx.pcN p hv p.toNat (by omega) pA hn hx.ne6
      · exact y6 x w n s hs arr iH oZ gE pb po h0 hp hx.pcN p hv 4096 (by omega) pA hn hx.ne6
theorem qM (a:Addr) (w:World):(method 408 44 (.pointer (some a)) "Read").run prog w=.ok (164,.pointer (some a)) w:=by kernel_rfl
theorem u9 (args:Array Value) (w:World):(callFunc 164 args).run prog w=.ok (.enter 164 args) w:=enters_of func164 (by kernel_rfl) rfl args w
theorem cA {B:Nat} {a w:World} (h:Below B a w) (n:Nat):Below B a (w.drewN n):=⟨h.os,h.tape,h.output,h.size,h.block⟩
theorem lH {P:Program} {ops:Array Oper} {o:Oper} {a:Act} {w:World} {K:Act→World→Prop} {Q:Exit→Act→World→Prop} {E:Prop} (yU:o.guard=none) (d s:Operand) (dT sT:TypeId)
  (ho:o.op=.call { callee:=.builtin .copy,args:=#[d,s],argTypes:=#[dT,sT] }) (elem:TypeId) (hu:P.underlying dT=some (.slice elem)) (gE:(P.info? elem).map (·.size)=some 1)
  (dp sp:Option Addr) (dLen dCap sLen sCap:Nat) (hd:a.eval d=.slice dp dLen dCap) (hs:a.eval s=.slice sp sLen sCap) (hn:Nat.min sLen dLen=0)
  (h:K (a.put o.dst (.int .i64 0)) w) :
  if Region.wanted o (yielded ops a.tmps)=true then Oper.wp P o a w K Q else E:=by
 have hw:Region.wanted o (yielded ops a.tmps)=true:=by simp [Region.wanted,yU]
 rw [if_pos hw]
 have gA:=run_copy_none (P:=P) w dT sT o.type elem dp sp dLen dCap sLen sCap hu gE hn
 unfold Oper.wp
 simp only [execOp,ho,resolve,invoke,builtin]
 simp [hd,hs,gA,Result.andThen]
 exact h
def xW (x:Cx) (w:World) (s:ByteArray) (n:Nat) (arr:Array Value) (lb:Int) (w':World):Prop:=
 ∃ m:Nat,1≤m∧m≤4096∧m≤s.size∧aJ w' x.br (jA x 0 m .nilIface lb) 232∧aJ w' x.rb (mD (s.data.toList.take m)++arr.toList.drop m).toArray 5 ∧
  (∃ n',n'≤n+1∧aJ w' x.rd (AP x (s.extract m s.size) n') 46)∧aK (fun k=>k=x.br∨k=x.rb∨k=x.rd) w w'∧w'.heap.size=w.heap.size
def B0 (x:Cx) (w:World) (lb:Int) (w':World):Prop:=
 aJ w' x.br (jA x 0 0 (sY x) lb) 232∧aK (fun k=>k=x.br) w w'∧w'.heap.size=w.heap.size
theorem O2 (x:Cx) (hx:x.Ok) (w:World) (hb:Below x.B x.W0 w) (n:Nat) (s:ByteArray) (hs:s.toList.isEmpty=false) (arr:Array Value) (iH:aJ w x.rd (AP x s n) 46) (oZ:aJ w x.rb arr 5) (gE:arr.size=4096)
   (pA:s.size ≤ 1000000000) (hn:n ≤ 1000000000) (lb:Int) (hZ:aJ w x.br (jA x 0 0 .nilIface lb) 232) :
    Calls prog 181 #[.pointer (some ⟨x.br,0,none⟩)] w fun e w'=>e=.returned (.tuple #[])∧xW x w s n arr lb w':=by
  have hc:=hZ.cell
  have hf:=hZ.frozen
  have HX:=Lib.hid hx
  have HB:=Lib.hid hb
  have BZ:=Lib.hid iH
  have IR:=Lib.hid oZ
  have K4:=Lib.hid hZ
  clear hx hb iH oZ hZ
  go_enter func181,ntmps181
  go_wp2
  go_quiet (fail)
  have T0:aK (fun k=>k=x.br) w (w.drewN nq):=(aK.refl _ w).drewN nq
  have fK:aJ (w.drewN nq) x.br (jA x 0 0 .nilIface lb) 232:=K4.out
  have iR:(w.drewN nq).heap.size=w.heap.size:=rfl
  obtain ⟨w0,rD⟩:∃ w0,w0=w.drewN nq:=⟨_,rfl⟩
  rw [← rD] at T0 fK iR ⊢
  clear rD hc hf
  have k0:w0.cell? ⟨x.br,0,none⟩=some (.slice (some ⟨x.rb,0,none⟩) 4096 4096):=fK.cell 0
  have k1:w0.cell? ⟨x.br,1,none⟩=some (.iface 44 (.pointer (some ⟨x.rd,0,none⟩))):=fK.cell 1
  have k3:w0.cell? ⟨x.br,3,none⟩=some (.int .i64 0):=fK.cell 3
  have CV:=Lib.hid (BZ.out.mod T0 (fun h=>HX.out.ne5 h.symm))
  have XV:=Lib.hid (IR.out.mod T0 (fun h=>HX.out.ne4 h.symm))
  have cN:=Lib.hid (fun k=>IS x HX.out (w0.drewN k) (cA (aK.below HB.out HB.out.size T0 (fun i hi=>by subst hi;exact HX.out.br)) k) n s hs arr CV.out XV.out gE pA hn)
  have fV:=Lib.hid fK
  have IU:=Lib.hid T0
  have K6:=Lib.hid iR
  clear fK T0 iR
  go_wp2
  refine wp_loop_once ?_
  go_wp2
  have CW:=fun a w=>qM a w
  have oI:=fun a w=>u9 a w
  go_region_held3 (fun w'=>w'.cell? ⟨x.br,0,none⟩=some (.slice (some ⟨x.rb,0,none⟩) 4096 4096)∧w'.cell? ⟨x.br,1,none⟩=some (.iface 44 (.pointer (some ⟨x.rd,0,none⟩)))∧w'.cell? ⟨x.br,3,none⟩=some (.int .i64 0))
    (first
      | go_keep
      | (go_split_ands
         have hq:=((show aJ (w0.drewN 1) x.br _ _ from fV.out).mod hp.mod (by intro h;rcases h with h|h;exact HX.out.ne4 h;exact HX.out.ne5 h)).cell
         exact ⟨hq 0,hq 1,hq 3⟩))
    (first
      | (go_at_call 164;refine (cN.out 1).mono ?_;rintro e w1 ⟨m,rfl,hp⟩))
  have rU:aJ w1 x.br (jA x 0 0 .nilIface lb) 232:=(show aJ (w0.drewN 1) x.br _ _ from fV.out).mod hp.mod (by intro h;rcases h with h|h;exact HX.out.ne4 h;exact HX.out.ne5 h)
  have tE:=rU.cell
  have sZ:=rU.frozen
  have nK:=Lib.hid rU
  have HP:=Lib.hid hp
  have eA:(m:Int) ≤ 4096:=by have:=hp.m2;omega
  have iA:¬ ((m:Int) < 0):=by omega
  have cD:(0:Int) < (m:Int):=by have:=hp.m1;omega
  clear rU hp k0 k1 k3
  go_wp2
  (try simp only [Exit.inBlock,Exit.then]);refine bodyPost_ret (results_none rfl _ _ _) rfl ?_
  have K7:aJ (w1.setCell ⟨x.br,3,none⟩ (.int .i64 m)) x.br (jA x 0 m .nilIface lb) 232:=nK.out.set 3 _
  have IV:x.rb ≠ x.br:=fun h=>HX.out.ne4 h.symm
  have y7:x.rd ≠ x.br:=fun h=>HX.out.ne5 h.symm
  refine ⟨rfl,m,HP.out.m1,HP.out.m2,HP.out.m3,K7,HP.out.row.set_ne IV _,?_,?_,?_⟩
  · obtain ⟨n',h1,h2⟩:=HP.out.rd
    exact ⟨n',h1,h2.set_ne y7 _⟩
  · have h1:aK (fun k=>k=x.br ∨ k=x.rb ∨ k=x.rd) (w0.drewN 1) w1:=HP.out.mod.mono (fun i _ h=>by rcases h with h|h <;> simp [h])
    have h2:aK (fun k=>k=x.br ∨ k=x.rb ∨ k=x.rd) w (w0.drewN 1):=(IU.out.mono (fun i _ h=>Or.inl h)).drewN 1
    exact (h2.trans h1 (fun _ _ h=>h)).setCell (Or.inl (Or.inl rfl)) _
  · have:=HP.out.size
    simp [World.setCell]
    rw [this]
    exact K6.out
theorem TW (x:Cx) (hx:x.Ok) (w:World) (hb:Below x.B x.W0 w) (n:Nat) (s:ByteArray) (hs:s.toList.isEmpty=true) (iH:aJ w x.rd (AP x s n) 46)
    (lb:Int) (hZ:aJ w x.br (jA x 0 0 .nilIface lb) 232) :
    Calls prog 181 #[.pointer (some ⟨x.br,0,none⟩)] w fun e w'=>e=.returned (.tuple #[])∧B0 x w lb w':=by
  have hc:=hZ.cell
  have hf:=hZ.frozen
  have HX:=Lib.hid hx
  have HB:=Lib.hid hb
  have BZ:=Lib.hid iH
  have K4:=Lib.hid hZ
  clear hx hb iH hZ
  go_enter func181,ntmps181
  go_wp2
  go_quiet (fail)
  have T0:aK (fun k=>k=x.br) w (w.drewN nq):=(aK.refl _ w).drewN nq
  have fK:aJ (w.drewN nq) x.br (jA x 0 0 .nilIface lb) 232:=K4.out
  have iR:(w.drewN nq).heap.size=w.heap.size:=rfl
  obtain ⟨w0,rD⟩:∃ w0,w0=w.drewN nq:=⟨_,rfl⟩
  rw [← rD] at T0 fK iR ⊢
  clear rD hc hf
  have k0:w0.cell? ⟨x.br,0,none⟩=some (.slice (some ⟨x.rb,0,none⟩) 4096 4096):=fK.cell 0
  have k1:w0.cell? ⟨x.br,1,none⟩=some (.iface 44 (.pointer (some ⟨x.rd,0,none⟩))):=fK.cell 1
  have k3:w0.cell? ⟨x.br,3,none⟩=some (.int .i64 0):=fK.cell 3
  have CV:=Lib.hid (BZ.out.mod T0 (fun h=>HX.out.ne5 h.symm))
  have tP:w0.cell? ⟨0,0,none⟩=some x.eofV:=by rw [← HX.out.eof];exact (aK.below HB.out HB.out.size T0 (fun i hi=>by subst hi;exact HX.out.br)).cell HX.out.gB
  have cN:=Lib.hid (fun k=>OZ x (w0.drewN k) n s hs CV.out tP)
  clear tP
  have fV:=Lib.hid fK
  have IU:=Lib.hid T0
  have K6:=Lib.hid iR
  clear fK T0 iR
  go_wp2
  refine wp_loop_once ?_
  go_wp2
  have CW:=fun a w=>qM a w
  have oI:=fun a w=>u9 a w
  have tQ:(∃ u t,sY x=.iface u t):=by unfold sY;split <;> exact ⟨_,_,rfl⟩
  obtain ⟨u,t,tQ⟩:=tQ
  have Eu:=Lib.hid tQ
  rw [tQ] at cN
  clear tQ
  go_region_held3 (fun w'=>w'.cell? ⟨x.br,0,none⟩=some (.slice (some ⟨x.rb,0,none⟩) 4096 4096)∧w'.cell? ⟨x.br,1,none⟩=some (.iface 44 (.pointer (some ⟨x.rd,0,none⟩)))∧w'.cell? ⟨x.br,3,none⟩=some (.int .i64 0))
    (first
      | go_keep
      | (go_split_ands
         refine ⟨?_,?_,?_⟩ <;> assumption))
    (first
      | (go_at_call 164;refine (cN.out 1).mono ?_;rintro e w1 ⟨rfl,kk,rfl⟩))
  have tE:=fV.out.cell
  have sZ:=fV.out.frozen
  clear k0 k1 k3
  go_wp2
  (try simp only [Exit.inBlock,Exit.then]);refine bodyPost_ret (results_none rfl _ _ _) rfl ?_
  refine ⟨rfl,?_,?_,?_⟩
  · rw [Eu.out]
    exact ((show aJ (w0.drewN (1 + kk)) x.br _ _ from fV.out).set 3 _).set 4 _
  · exact (((IU.out).drewN _).setCell (Or.inl rfl) _).setCell (Or.inl rfl) _
  · simp [World.setCell]
    exact K6.out
theorem O3 (x:Cx) (hx:x.Ok) (w:World) (hb:Below x.B x.W0 w) (n:Nat) (s:ByteArray) (hs:s.toList.isEmpty=false) (arr:Array Value) (iH:aJ w x.rd (AP x s n) 46) (oZ:aJ w x.rb arr 5) (gE:arr.size=4096)
   (pA:s.size ≤ 1000000000) (hn:n ≤ 1000000000) (lb:Int) (q:Nat) (Xo:0 < q) (Ge:¬ q=4096) (hq:q ≤ 4096) (hZ:aJ w x.br (jA x q q .nilIface lb) 232) :
    Calls prog 181 #[.pointer (some ⟨x.br,0,none⟩)] w fun e w'=>e=.returned (.tuple #[])∧xW x w s n arr lb w':=by
  have hc:=hZ.cell
  have hf:=hZ.frozen
  have HX:=Lib.hid hx
  have HB:=Lib.hid hb
  have BZ:=Lib.hid iH
  have IR:=Lib.hid oZ
  have K4:=Lib.hid hZ
  clear hx hb iH oZ hZ
  have O1:decide ((0:Int) < (q:Int))=true:=by simpa using Xo
  have AQ:(q:Int) ≤ 4096:=by omega
  have Zd:¬ (4096=q):=fun h=>Ge h.symm
  have k0:w.cell? ⟨x.br,0,none⟩=some (.slice (some ⟨x.rb,0,none⟩) 4096 4096):=hc 0
  have k2:w.cell? ⟨x.br,2,none⟩=some (.int .i64 q):=hc 2
  have k3:w.cell? ⟨x.br,3,none⟩=some (.int .i64 q):=hc 3
  clear hc
  go_enter func181,ntmps181
  go_wp2
  go_region_held3 (fun w'=>w'.cell? ⟨x.br,0,none⟩=some (.slice (some ⟨x.rb,0,none⟩) 4096 4096)∧w'.cell? ⟨x.br,2,none⟩=some (.int .i64 q)∧w'.cell? ⟨x.br,3,none⟩=some (.int .i64 q))
    (go_keep)
    (first
      | (refine lH rfl (.tmp 13) (.tmp 26) 77 77 rfl 5 underlying77 tN _ _ _ _ _ _ rfl rfl (by simp) ?_))
  go_wp2
  go_region
  go_wp2
  go_quiet (fail)
  obtain ⟨w0,rD⟩:∃ w0,w0=((w.setCell ⟨x.br,3,none⟩ (.int .i64 0)).setCell ⟨x.br,2,none⟩ (.int .i64 0)).drew.drew.drewN nq:=⟨_,rfl⟩
  have T0:aK (fun k=>k=x.br) w w0:=by
    rw [rD];exact ((((aK.refl (fun k=>k=x.br) w).setCell (p:=⟨x.br,3,none⟩) (Or.inl rfl) _).setCell (p:=⟨x.br,2,none⟩) (Or.inl rfl) _).drew.drew.drewN nq)
  have fK:aJ w0 x.br (jA x 0 0 .nilIface lb) 232:=by
    rw [rD];exact (K4.out.set 3 _).set 2 _
  have iR:w0.heap.size=w.heap.size:=by rw [rD];simp [World.setCell]
  rw [show (((w.setCell ⟨x.br,3,none⟩ (.int .i64 0)).setCell ⟨x.br,2,none⟩ (.int .i64 0)).drew.drew.drewN nq)=w0 from rD.symm]
  clear rD hf k0 k2 k3
  have k0:w0.cell? ⟨x.br,0,none⟩=some (.slice (some ⟨x.rb,0,none⟩) 4096 4096):=fK.cell 0
  have k1:w0.cell? ⟨x.br,1,none⟩=some (.iface 44 (.pointer (some ⟨x.rd,0,none⟩))):=fK.cell 1
  have k3:w0.cell? ⟨x.br,3,none⟩=some (.int .i64 0):=fK.cell 3
  have CV:=Lib.hid (BZ.out.mod T0 (fun h=>HX.out.ne5 h.symm))
  have XV:=Lib.hid (IR.out.mod T0 (fun h=>HX.out.ne4 h.symm))
  have cN:=Lib.hid (fun k=>IS x HX.out (w0.drewN k) (cA (aK.below HB.out HB.out.size T0 (fun i hi=>by subst hi;exact HX.out.br)) k) n s hs arr CV.out XV.out gE pA hn)
  have fV:=Lib.hid fK
  have IU:=Lib.hid T0
  have K6:=Lib.hid iR
  clear fK T0 iR
  go_wp2
  refine wp_loop_once ?_
  go_wp2
  have CW:=fun a w=>qM a w
  have oI:=fun a w=>u9 a w
  go_region_held3 (fun w'=>w'.cell? ⟨x.br,0,none⟩=some (.slice (some ⟨x.rb,0,none⟩) 4096 4096)∧w'.cell? ⟨x.br,1,none⟩=some (.iface 44 (.pointer (some ⟨x.rd,0,none⟩)))∧w'.cell? ⟨x.br,3,none⟩=some (.int .i64 0))
    (first
      | go_keep
      | (go_split_ands
         have hq:=((show aJ (w0.drewN 1) x.br _ _ from fV.out).mod hp.mod (by intro h;rcases h with h|h;exact HX.out.ne4 h;exact HX.out.ne5 h)).cell
         exact ⟨hq 0,hq 1,hq 3⟩))
    (first
      | (go_at_call 164;refine (cN.out 1).mono ?_;rintro e w1 ⟨m,rfl,hp⟩))
  have rU:aJ w1 x.br (jA x 0 0 .nilIface lb) 232:=(show aJ (w0.drewN 1) x.br _ _ from fV.out).mod hp.mod (by intro h;rcases h with h|h;exact HX.out.ne4 h;exact HX.out.ne5 h)
  have tE:=rU.cell
  have sZ:=rU.frozen
  have nK:=Lib.hid rU
  have HP:=Lib.hid hp
  have eA:(m:Int) ≤ 4096:=by have:=hp.m2;omega
  have iA:¬ ((m:Int) < 0):=by omega
  have cD:(0:Int) < (m:Int):=by have:=hp.m1;omega
  clear rU hp k0 k1 k3
  go_wp2
  (try simp only [Exit.inBlock,Exit.then]);refine bodyPost_ret (results_none rfl _ _ _) rfl ?_
  have K7:aJ (w1.setCell ⟨x.br,3,none⟩ (.int .i64 m)) x.br (jA x 0 m .nilIface lb) 232:=nK.out.set 3 _
  have IV:x.rb ≠ x.br:=fun h=>HX.out.ne4 h.symm
  have y7:x.rd ≠ x.br:=fun h=>HX.out.ne5 h.symm
  refine ⟨rfl,m,HP.out.m1,HP.out.m2,HP.out.m3,K7,HP.out.row.set_ne IV _,?_,?_,?_⟩
  · obtain ⟨n',h1,h2⟩:=HP.out.rd
    exact ⟨n',h1,h2.set_ne y7 _⟩
  · have h1:aK (fun k=>k=x.br ∨ k=x.rb ∨ k=x.rd) (w0.drewN 1) w1:=HP.out.mod.mono (fun i _ h=>by rcases h with h|h <;> simp [h])
    have h2:aK (fun k=>k=x.br ∨ k=x.rb ∨ k=x.rd) w (w0.drewN 1):=(IU.out.mono (fun i _ h=>Or.inl h)).drewN 1
    exact (h2.trans h1 (fun _ _ h=>h)).setCell (Or.inl (Or.inl rfl)) _
  · have:=HP.out.size
    simp [World.setCell]
    rw [this]
    exact K6.out
theorem TX (x:Cx) (hx:x.Ok) (w:World) (hb:Below x.B x.W0 w) (n:Nat) (s:ByteArray) (hs:s.toList.isEmpty=true) (iH:aJ w x.rd (AP x s n) 46)
    (lb:Int) (q:Nat) (Xo:0 < q) (Ge:¬ q=4096) (hq:q ≤ 4096) (hZ:aJ w x.br (jA x q q .nilIface lb) 232) :
    Calls prog 181 #[.pointer (some ⟨x.br,0,none⟩)] w fun e w'=>e=.returned (.tuple #[])∧B0 x w lb w':=by
  have hc:=hZ.cell
  have hf:=hZ.frozen
  have HX:=Lib.hid hx
  have HB:=Lib.hid hb
  have BZ:=Lib.hid iH
  have K4:=Lib.hid hZ
  clear hx hb iH hZ
  have O1:decide ((0:Int) < (q:Int))=true:=by simpa using Xo
  have AQ:(q:Int) ≤ 4096:=by omega
  have Zd:¬ (4096=q):=fun h=>Ge h.symm
  have k0:w.cell? ⟨x.br,0,none⟩=some (.slice (some ⟨x.rb,0,none⟩) 4096 4096):=hc 0
  have k2:w.cell? ⟨x.br,2,none⟩=some (.int .i64 q):=hc 2
  have k3:w.cell? ⟨x.br,3,none⟩=some (.int .i64 q):=hc 3
  clear hc
  go_enter func181,ntmps181
  go_wp2
  go_region_held3 (fun w'=>w'.cell? ⟨x.br,0,none⟩=some (.slice (some ⟨x.rb,0,none⟩) 4096 4096)∧w'.cell? ⟨x.br,2,none⟩=some (.int .i64 q)∧w'.cell? ⟨x.br,3,none⟩=some (.int .i64 q))
    (go_keep)
    (first
      | (refine lH rfl (.tmp 13) (.tmp 26) 77 77 rfl 5 underlying77 tN _ _ _ _ _ _ rfl rfl (by simp) ?_))
  go_wp2
  go_region
  go_wp2
  go_quiet (fail)
  obtain ⟨w0,rD⟩:∃ w0,w0=((w.setCell ⟨x.br,3,none⟩ (.int .i64 0)).setCell ⟨x.br,2,none⟩ (.int .i64 0)).drew.drew.drewN nq:=⟨_,rfl⟩
  have T0:aK (fun k=>k=x.br) w w0:=by
    rw [rD];exact ((((aK.refl (fun k=>k=x.br) w).setCell (p:=⟨x.br,3,none⟩) (Or.inl rfl) _).setCell (p:=⟨x.br,2,none⟩) (Or.inl rfl) _).drew.drew.drewN nq)
  have fK:aJ w0 x.br (jA x 0 0 .nilIface lb) 232:=by
    rw [rD];exact (K4.out.set 3 _).set 2 _
  have iR:w0.heap.size=w.heap.size:=by rw [rD];simp [World.setCell]
  rw [show (((w.setCell ⟨x.br,3,none⟩ (.int .i64 0)).setCell ⟨x.br,2,none⟩ (.int .i64 0)).drew.drew.drewN nq)=w0 from rD.symm]
  clear rD hf k0 k2 k3
  have k0:w0.cell? ⟨x.br,0,none⟩=some (.slice (some ⟨x.rb,0,none⟩) 4096 4096):=fK.cell 0
  have k1:w0.cell? ⟨x.br,1,none⟩=some (.iface 44 (.pointer (some ⟨x.rd,0,none⟩))):=fK.cell 1
  have k3:w0.cell? ⟨x.br,3,none⟩=some (.int .i64 0):=fK.cell 3
  have CV:=Lib.hid (BZ.out.mod T0 (fun h=>HX.out.ne5 h.symm))
  have tP:w0.cell? ⟨0,0,none⟩=some x.eofV:=by rw [← HX.out.eof];exact (aK.below HB.out HB.out.size T0 (fun i hi=>by subst hi;exact HX.out.br)).cell HX.out.gB
  have cN:=Lib.hid (fun k=>OZ x (w0.drewN k) n s hs CV.out tP)
  clear tP
  have fV:=Lib.hid fK
  have IU:=Lib.hid T0
  have K6:=Lib.hid iR
  clear fK T0 iR
  go_wp2
  refine wp_loop_once ?_
  go_wp2
  have CW:=fun a w=>qM a w
  have oI:=fun a w=>u9 a w
  have tQ:(∃ u t,sY x=.iface u t):=by unfold sY;split <;> exact ⟨_,_,rfl⟩
  obtain ⟨u,t,tQ⟩:=tQ
  have Eu:=Lib.hid tQ
  rw [tQ] at cN
  clear tQ
  go_region_held3 (fun w'=>w'.cell? ⟨x.br,0,none⟩=some (.slice (some ⟨x.rb,0,none⟩) 4096 4096)∧w'.cell? ⟨x.br,1,none⟩=some (.iface 44 (.pointer (some ⟨x.rd,0,none⟩)))∧w'.cell? ⟨x.br,3,none⟩=some (.int .i64 0))
    (first
      | go_keep
      | (go_split_ands
         refine ⟨?_,?_,?_⟩ <;> assumption))
    (first
      | (go_at_call 164;refine (cN.out 1).mono ?_;rintro e w1 ⟨rfl,kk,rfl⟩))
  have tE:=fV.out.cell
  have sZ:=fV.out.frozen
  clear k0 k1 k3
  go_wp2
  (try simp only [Exit.inBlock,Exit.then]);refine bodyPost_ret (results_none rfl _ _ _) rfl ?_
  refine ⟨rfl,?_,?_,?_⟩
  · rw [Eu.out]
    exact ((show aJ (w0.drewN (1 + kk)) x.br _ _ from fV.out).set 3 _).set 4 _
  · exact (((IU.out).drewN _).setCell (Or.inl rfl) _).setCell (Or.inl rfl) _
  · simp [World.setCell]
    exact K6.out
theorem O4 (x:Cx) (hx:x.Ok) (w:World) (hb:Below x.B x.W0 w) (n:Nat) (s:ByteArray) (hs:s.toList.isEmpty=false) (arr:Array Value) (iH:aJ w x.rd (AP x s n) 46) (oZ:aJ w x.rb arr 5) (gE:arr.size=4096)
   (pA:s.size ≤ 1000000000) (hn:n ≤ 1000000000) (lb:Int) (hZ:aJ w x.br (jA x 4096 4096 .nilIface lb) 232) :
    Calls prog 181 #[.pointer (some ⟨x.br,0,none⟩)] w fun e w'=>e=.returned (.tuple #[])∧xW x w s n arr lb w':=by
  have hc:=hZ.cell
  have hf:=hZ.frozen
  have HX:=Lib.hid hx
  have HB:=Lib.hid hb
  have BZ:=Lib.hid iH
  have IR:=Lib.hid oZ
  have K4:=Lib.hid hZ
  clear hx hb iH oZ hZ
  have k0:w.cell? ⟨x.br,0,none⟩=some (.slice (some ⟨x.rb,0,none⟩) 4096 4096):=hc 0
  have k2:w.cell? ⟨x.br,2,none⟩=some (.int .i64 4096):=hc 2
  have k3:w.cell? ⟨x.br,3,none⟩=some (.int .i64 4096):=hc 3
  clear hc
  go_enter func181,ntmps181
  go_wp2
  go_region_held3 (fun w'=>w'.cell? ⟨x.br,0,none⟩=some (.slice (some ⟨x.rb,0,none⟩) 4096 4096)∧w'.cell? ⟨x.br,2,none⟩=some (.int .i64 4096)∧w'.cell? ⟨x.br,3,none⟩=some (.int .i64 4096))
    (go_keep)
    (first
      | (refine lH rfl (.tmp 13) (.tmp 26) 77 77 rfl 5 underlying77 tN _ _ _ _ _ _ rfl rfl (by simp) ?_))
  go_wp2
  go_region
  go_wp2
  go_quiet (fail)
  obtain ⟨w0,rD⟩:∃ w0,w0=((w.setCell ⟨x.br,3,none⟩ (.int .i64 0)).setCell ⟨x.br,2,none⟩ (.int .i64 0)).drew.drew.drewN nq:=⟨_,rfl⟩
  have T0:aK (fun k=>k=x.br) w w0:=by
    rw [rD];exact ((((aK.refl (fun k=>k=x.br) w).setCell (p:=⟨x.br,3,none⟩) (Or.inl rfl) _).setCell (p:=⟨x.br,2,none⟩) (Or.inl rfl) _).drew.drew.drewN nq)
  have fK:aJ w0 x.br (jA x 0 0 .nilIface lb) 232:=by
    rw [rD];exact (K4.out.set 3 _).set 2 _
  have iR:w0.heap.size=w.heap.size:=by rw [rD];simp [World.setCell]
  rw [show (((w.setCell ⟨x.br,3,none⟩ (.int .i64 0)).setCell ⟨x.br,2,none⟩ (.int .i64 0)).drew.drew.drewN nq)=w0 from rD.symm]
  clear rD hf k0 k2 k3
  have k0:w0.cell? ⟨x.br,0,none⟩=some (.slice (some ⟨x.rb,0,none⟩) 4096 4096):=fK.cell 0
  have k1:w0.cell? ⟨x.br,1,none⟩=some (.iface 44 (.pointer (some ⟨x.rd,0,none⟩))):=fK.cell 1
  have k3:w0.cell? ⟨x.br,3,none⟩=some (.int .i64 0):=fK.cell 3
  have CV:=Lib.hid (BZ.out.mod T0 (fun h=>HX.out.ne5 h.symm))
  have XV:=Lib.hid (IR.out.mod T0 (fun h=>HX.out.ne4 h.symm))
  have cN:=Lib.hid (fun k=>IS x HX.out (w0.drewN k) (cA (aK.below HB.out HB.out.size T0 (fun i hi=>by subst hi;exact HX.out.br)) k) n s hs arr CV.out XV.out gE pA hn)
  have fV:=Lib.hid fK
  have IU:=Lib.hid T0
  have K6:=Lib.hid iR
  clear fK T0 iR
  go_wp2
  refine wp_loop_once ?_
  go_wp2
  have CW:=fun a w=>qM a w
  have oI:=fun a w=>u9 a w
  go_region_held3 (fun w'=>w'.cell? ⟨x.br,0,none⟩=some (.slice (some ⟨x.rb,0,none⟩) 4096 4096)∧w'.cell? ⟨x.br,1,none⟩=some (.iface 44 (.pointer (some ⟨x.rd,0,none⟩)))∧w'.cell? ⟨x.br,3,none⟩=some (.int .i64 0))
    (first
      | go_keep
      | (go_split_ands
         have hq:=((show aJ (w0.drewN 1) x.br _ _ from fV.out).mod hp.mod (by intro h;rcases h with h|h;exact HX.out.ne4 h;exact HX.out.ne5 h)).cell
         exact ⟨hq 0,hq 1,hq 3⟩))
    (first
      | (go_at_call 164;refine (cN.out 1).mono ?_;rintro e w1 ⟨m,rfl,hp⟩))
  have rU:aJ w1 x.br (jA x 0 0 .nilIface lb) 232:=(show aJ (w0.drewN 1) x.br _ _ from fV.out).mod hp.mod (by intro h;rcases h with h|h;exact HX.out.ne4 h;exact HX.out.ne5 h)
  have tE:=rU.cell
  have sZ:=rU.frozen
  have nK:=Lib.hid rU
  have HP:=Lib.hid hp
  have eA:(m:Int) ≤ 4096:=by have:=hp.m2;omega
  have iA:¬ ((m:Int) < 0):=by omega
  have cD:(0:Int) < (m:Int):=by have:=hp.m1;omega
  clear rU hp k0 k1 k3
  go_wp2
  (try simp only [Exit.inBlock,Exit.then]);refine bodyPost_ret (results_none rfl _ _ _) rfl ?_
  have K7:aJ (w1.setCell ⟨x.br,3,none⟩ (.int .i64 m)) x.br (jA x 0 m .nilIface lb) 232:=nK.out.set 3 _
  have IV:x.rb ≠ x.br:=fun h=>HX.out.ne4 h.symm
  have y7:x.rd ≠ x.br:=fun h=>HX.out.ne5 h.symm
  refine ⟨rfl,m,HP.out.m1,HP.out.m2,HP.out.m3,K7,HP.out.row.set_ne IV _,?_,?_,?_⟩
  · obtain ⟨n',h1,h2⟩:=HP.out.rd
    exact ⟨n',h1,h2.set_ne y7 _⟩
  · have h1:aK (fun k=>k=x.br ∨ k=x.rb ∨ k=x.rd) (w0.drewN 1) w1:=HP.out.mod.mono (fun i _ h=>by rcases h with h|h <;> simp [h])
    have h2:aK (fun k=>k=x.br ∨ k=x.rb ∨ k=x.rd) w (w0.drewN 1):=(IU.out.mono (fun i _ h=>Or.inl h)).drewN 1
    exact (h2.trans h1 (fun _ _ h=>h)).setCell (Or.inl (Or.inl rfl)) _
  · have:=HP.out.size
    simp [World.setCell]
    rw [this]
    exact K6.out
theorem TY (x:Cx) (hx:x.Ok) (w:World) (hb:Below x.B x.W0 w) (n:Nat) (s:ByteArray) (hs:s.toList.isEmpty=true) (iH:aJ w x.rd (AP x s n) 46)
    (lb:Int) (hZ:aJ w x.br (jA x 4096 4096 .nilIface lb) 232) :
    Calls prog 181 #[.pointer (some ⟨x.br,0,none⟩)] w fun e w'=>e=.returned (.tuple #[])∧B0 x w lb w':=by
  have hc:=hZ.cell
  have hf:=hZ.frozen
  have HX:=Lib.hid hx
  have HB:=Lib.hid hb
  have BZ:=Lib.hid iH
  have K4:=Lib.hid hZ
  clear hx hb iH hZ
  have k0:w.cell? ⟨x.br,0,none⟩=some (.slice (some ⟨x.rb,0,none⟩) 4096 4096):=hc 0
  have k2:w.cell? ⟨x.br,2,none⟩=some (.int .i64 4096):=hc 2
  have k3:w.cell? ⟨x.br,3,none⟩=some (.int .i64 4096):=hc 3
  clear hc
  go_enter func181,ntmps181
  go_wp2
  go_region_held3 (fun w'=>w'.cell? ⟨x.br,0,none⟩=some (.slice (some ⟨x.rb,0,none⟩) 4096 4096)∧w'.cell? ⟨x.br,2,none⟩=some (.int .i64 4096)∧w'.cell? ⟨x.br,3,none⟩=some (.int .i64 4096))
    (go_keep)
    (first
      | (refine lH rfl (.tmp 13) (.tmp 26) 77 77 rfl 5 underlying77 tN _ _ _ _ _ _ rfl rfl (by simp) ?_))
  go_wp2
  go_region
  go_wp2
  go_quiet (fail)
  obtain ⟨w0,rD⟩:∃ w0,w0=((w.setCell ⟨x.br,3,none⟩ (.int .i64 0)).setCell ⟨x.br,2,none⟩ (.int .i64 0)).drew.drew.drewN nq:=⟨_,rfl⟩
  have T0:aK (fun k=>k=x.br) w w0:=by
    rw [rD];exact ((((aK.refl (fun k=>k=x.br) w).setCell (p:=⟨x.br,3,none⟩) (Or.inl rfl) _).setCell (p:=⟨x.br,2,none⟩) (Or.inl rfl) _).drew.drew.drewN nq)
  have fK:aJ w0 x.br (jA x 0 0 .nilIface lb) 232:=by
    rw [rD];exact (K4.out.set 3 _).set 2 _
  have iR:w0.heap.size=w.heap.size:=by rw [rD];simp [World.setCell]
  rw [show (((w.setCell ⟨x.br,3,none⟩ (.int .i64 0)).setCell ⟨x.br,2,none⟩ (.int .i64 0)).drew.drew.drewN nq)=w0 from rD.symm]
  clear rD hf k0 k2 k3
  have k0:w0.cell? ⟨x.br,0,none⟩=some (.slice (some ⟨x.rb,0,none⟩) 4096 4096):=fK.cell 0
  have k1:w0.cell? ⟨x.br,1,none⟩=some (.iface 44 (.pointer (some ⟨x.rd,0,none⟩))):=fK.cell 1
  have k3:w0.cell? ⟨x.br,3,none⟩=some (.int .i64 0):=fK.cell 3
  have CV:=Lib.hid (BZ.out.mod T0 (fun h=>HX.out.ne5 h.symm))
  have tP:w0.cell? ⟨0,0,none⟩=some x.eofV:=by rw [← HX.out.eof];exact (aK.below HB.out HB.out.size T0 (fun i hi=>by subst hi;exact HX.out.br)).cell HX.out.gB
  have cN:=Lib.hid (fun k=>OZ x (w0.drewN k) n s hs CV.out tP)
  clear tP
  have fV:=Lib.hid fK
  have IU:=Lib.hid T0
  have K6:=Lib.hid iR
  clear fK T0 iR
  go_wp2
  refine wp_loop_once ?_
  go_wp2
  have CW:=fun a w=>qM a w
  have oI:=fun a w=>u9 a w
  have tQ:(∃ u t,sY x=.iface u t):=by unfold sY;split <;> exact ⟨_,_,rfl⟩
  obtain ⟨u,t,tQ⟩:=tQ
  have Eu:=Lib.hid tQ
  rw [tQ] at cN
  clear tQ
  go_region_held3 (fun w'=>w'.cell? ⟨x.br,0,none⟩=some (.slice (some ⟨x.rb,0,none⟩) 4096 4096)∧w'.cell? ⟨x.br,1,none⟩=some (.iface 44 (.pointer (some ⟨x.rd,0,none⟩)))∧w'.cell? ⟨x.br,3,none⟩=some (.int .i64 0))
    (first
      | go_keep
      | (go_split_ands
         refine ⟨?_,?_,?_⟩ <;> assumption))
    (first
      | (go_at_call 164;refine (cN.out 1).mono ?_;rintro e w1 ⟨rfl,kk,rfl⟩))
  have tE:=fV.out.cell
  have sZ:=fV.out.frozen
  clear k0 k1 k3
  go_wp2
  (try simp only [Exit.inBlock,Exit.then]);refine bodyPost_ret (results_none rfl _ _ _) rfl ?_
  refine ⟨rfl,?_,?_,?_⟩
  · rw [Eu.out]
    exact ((show aJ (w0.drewN (1 + kk)) x.br _ _ from fV.out).set 3 _).set 4 _
  · exact (((IU.out).drewN _).setCell (Or.inl rfl) _).setCell (Or.inl rfl) _
  · simp [World.setCell]
    exact K6.out
def pG (x:Cx) (w:World) (un:Bs):Prop:=
 ∃ (r q n:Nat) (lb:Int) (arr:Array Value) (s:ByteArray) (us:Bs),
  aJ w x.br (jA x r q .nilIface lb) 232∧aJ w x.rb arr 5∧arr.size=4096∧aJ w x.rd (AP x s n) 46∧r≤q∧q≤4096∧us.length=q-r ∧
  (∀ j,j<us.length→arr[r+j]?=some (.int .u8 (us.getD j 0).toNat))∧un=us++s.data.toList∧n+s.size≤1000000000
def Cx.Sio (x:Cx) (k:Nat):Prop:=k=x.br∨k=x.rb∨k=x.rd
theorem pG.mod {x:Cx} {w w':World} {un:Bs} {S:Nat→Prop} (h:pG x w un) (hm:aK S w w') (h1:¬ S x.br) (h2:¬ S x.rb) (h3:¬ S x.rd):pG x w' un:=by
 obtain ⟨r,q,n,lb,arr,s,us,a,b,c,d,e⟩:=h
 exact ⟨r,q,n,lb,arr,s,us,a.mod hm h1,b.mod hm h2,c,d.mod hm h3,e⟩
theorem XW (x:Cx) (hx:x.Ok) (w:World) (r q n:Nat) (lb:Int) (arr:Array Value) (s:ByteArray) (b:UInt8) (us:Bs)
  (hZ:aJ w x.br (jA x r q .nilIface lb) 232) (oZ:aJ w x.rb arr 5) (gE:arr.size=4096) (iH:aJ w x.rd (AP x s n) 46)
  (hrq:r<q) (hq:q≤4096) (hl:(b::us).length=q-r) (oB:∀ j,j<(b::us).length→arr[r+j]?=some (.int .u8 ((b::us).getD j 0).toNat)) (sM:n+s.size≤1000000000) :
  Calls prog 180 #[.pointer (some ⟨x.br,0,none⟩)] w fun e w'=>e=.returned (.tuple #[.int .u8 b.toNat,.nilIface])∧pG x w' (us++s.data.toList)∧aK x.Sio w w'∧w'.heap.size=w.heap.size:=by
 have hc:=hZ.cell
 have hf:=hZ.frozen
 have hb:w.cell? ⟨x.rb,r,none⟩=some (.int .u8 b.toNat):=by rw [oZ.cell];have:=oB 0 (by simp);simpa using this
 have mF:((r:Int)==(q:Int))=false:=by simp;omega
 have wD:(r:Int)<4096:=by omega
 have IV:¬ x.br=x.rb:=hx.ne4
 have y7:¬ x.rb=x.br:=fun h=>hx.ne4 h.symm
 have HX:=Lib.hid hx
 have BZ:=Lib.hid iH
 have IR:=Lib.hid oZ
 have K4:=Lib.hid hZ
 have xG:=Lib.hid oB
 have HL:=Lib.hid hl
 clear hx iH oZ hZ oB hl
 go_enter func180,ntmps180
 go_wp2
 refine wp_loop_once ?_
 go_wp2
 go_quiet (fail)
 go_wp2
 go_quiet (fail)
 go_wp2
 go_ret2
 have fK:aJ ((((w.setCell ⟨x.br,6,none⟩ (.int .i64 (-1))).setCell ⟨x.br,2,none⟩ (.int .i64 ((r:Int)+1))).setCell ⟨x.br,5,none⟩ (.int .i64 b.toNat))) x.br (jA x (r+1:Nat) q .nilIface b.toNat) 232:=by
  have:=((K4.out.set 6 (.int .i64 (-1))).set 2 (.int .i64 ((r:Int)+1))).set 5 (.int .i64 b.toNat)
  rw [show (((r+1:Nat):Int))=(r:Int)+1 from by omega]
  exact this
 have hM:aK x.Sio w (((w.setCell ⟨x.br,6,none⟩ (.int .i64 (-1))).setCell ⟨x.br,2,none⟩ (.int .i64 ((r:Int)+1))).setCell ⟨x.br,5,none⟩ (.int .i64 b.toNat)):=
  (((aK.refl x.Sio w).setCell (p:=⟨x.br,6,none⟩) (Or.inl (Or.inl rfl)) _).setCell (p:=⟨x.br,2,none⟩) (Or.inl (Or.inl rfl)) _).setCell (p:=⟨x.br,5,none⟩) (Or.inl (Or.inl rfl)) _
 have Qq:wrap64 (b.toNat:Int)=b.toNat:=by have:=UInt8.toNat_lt b;unfold wrap64;omega
 try simp only [Qq]
 refine ⟨rfl,⟨r+1,q,n,b.toNat,arr,s,us,fK,?_,gE,?_,by omega,hq,?_,?_,rfl,sM⟩,⟨hM.os,hM.tape,hM.output,hM.size,hM.block⟩,by simp [World.setCell]⟩
 ·exact ((IR.out.set_ne y7 _).set_ne y7 _).set_ne y7 _
 ·have h:x.rd≠x.br:=fun h=>HX.out.ne5 h.symm
  exact ((BZ.out.set_ne h _).set_ne h _).set_ne h _
 ·have:=HL.out
  simp at this
  omega
 ·intro j hj
  have:=xG.out (j+1) (by simp;omega)
  rw [show r+1+j=r+(j+1) by omega]
  simpa using this
theorem Gf (x:Cx) (hx:x.Ok) (w:World) (hb:Below x.B x.W0 w) (q n:Nat) (lb:Int) (arr:Array Value) (s:ByteArray) (hs:s.toList.isEmpty=false)
  (hZ:aJ w x.br (jA x q q .nilIface lb) 232) (oZ:aJ w x.rb arr 5) (gE:arr.size=4096) (iH:aJ w x.rd (AP x s n) 46)
  (hq:q≤4096) (sM:n+s.size≤1000000000) :
  Calls prog 181 #[.pointer (some ⟨x.br,0,none⟩)] w fun e w'=>e=.returned (.tuple #[])∧xW x w s n arr lb w':=by
 by_cases h0:q=0
 ·subst h0
  exact O2 x hx w hb n s hs arr iH oZ gE (by omega) (by omega) lb hZ
 ·by_cases h1:q=4096
  ·subst h1
   exact O4 x hx w hb n s hs arr iH oZ gE (by omega) (by omega) lb hZ
  ·exact O3 x hx w hb n s hs arr iH oZ gE (by omega) (by omega) lb q (by omega) h1 hq hZ
theorem O5 (x:Cx) (hx:x.Ok) (w:World) (hb:Below x.B x.W0 w) (q n:Nat) (lb:Int) (s:ByteArray) (hs:s.toList.isEmpty=true)
  (hZ:aJ w x.br (jA x q q .nilIface lb) 232) (iH:aJ w x.rd (AP x s n) 46) (hq:q≤4096) :
  Calls prog 181 #[.pointer (some ⟨x.br,0,none⟩)] w fun e w'=>e=.returned (.tuple #[])∧B0 x w lb w':=by
 by_cases h0:q=0
 ·subst h0
  exact TW x hx w hb n s hs iH lb hZ
 ·by_cases h1:q=4096
  ·subst h1
   exact TY x hx w hb n s hs iH lb hZ
  ·exact TX x hx w hb n s hs iH lb q (by omega) h1 hq hZ
theorem xX (s:ByteArray) (m:Nat):(s.extract m s.size).data.toList=s.data.toList.drop m:=Lib.extract_to_end s m
theorem O6 (l:Bs) (j:Nat) (h:j<l.length):(mD l)[j]?=some (.int .u8 (l.getD j 0).toNat):=by
 simp [mD,List.getD,h]
theorem Gg (l:Bs) (r:List Value) (j:Nat) (h:j<l.length):((mD l++r).toArray:Array Value)[j]?=some (.int .u8 (l.getD j 0).toNat):=by
 rw [List.getElem?_toArray,List.getElem?_append_left (by simpa [mD] using h),O6 l j h]
theorem Gh (x:Cx) (hx:x.Ok) (w:World) (hb:Below x.B x.W0 w) (q n:Nat) (lb:Int) (arr:Array Value) (s:ByteArray) (b:UInt8) (un:Bs) (hs:s.data.toList=b::un)
  (hZ:aJ w x.br (jA x q q .nilIface lb) 232) (oZ:aJ w x.rb arr 5) (gE:arr.size=4096) (iH:aJ w x.rd (AP x s n) 46)
  (hq:q≤4096) (sM:n+s.size≤1000000000) :
  Calls prog 180 #[.pointer (some ⟨x.br,0,none⟩)] w fun e w'=>e=.returned (.tuple #[.int .u8 b.toNat,.nilIface])∧pG x w' un∧aK x.Sio w w'∧w'.heap.size=w.heap.size:=by
 have hc:=hZ.cell
 have hf:=hZ.frozen
 have mF:((q:Int)==(q:Int))=true:=by simp
 have rE:s.toList.isEmpty=false:=by
  have:s.toList=s.data.toList:=by simp [ByteArray.toList_eq]
  rw [this,hs];rfl
 obtain ⟨W,hW⟩:∃ W,W=w.setCell ⟨x.br,6,none⟩ (.int .i64 (-1)):=⟨_,rfl⟩
 have Ev:aK x.Sio w W:=by rw [hW];exact (aK.refl x.Sio w).setCell (p:=⟨x.br,6,none⟩) (Or.inl (Or.inl rfl)) _
 have XX:aJ W x.br (jA x q q .nilIface lb) 232:=by rw [hW];exact hZ.set 6 _
 have XY:aJ W x.rb arr 5:=by rw [hW];exact oZ.set_ne (fun h=>hx.ne4 h.symm) _
 have TZ:aJ W x.rd (AP x s n) 46:=by rw [hW];exact iH.set_ne (fun h=>hx.ne5 h.symm) _
 have Ze:Below x.B x.W0 W:=aK.below hb hb.size Ev (fun i hi=>by rcases hi with h|h|h<;>subst h;exact hx.br;exact hx.rb;exact hx.rd)
 have Zf:W.heap.size=w.heap.size:=by rw [hW];simp [World.setCell]
 have cN:=Lib.hid (fun k=>Gf x hx (W.drewN k) (cA Ze k) q n lb arr s rE XX XY gE TZ hq sM)
 have Gi:=Lib.hid (fun (w:World)=>XW x hx w)
 rw [hW] at cN
 have HX:=Lib.hid hx
 have HS:=Lib.hid hs
 have HW:=Lib.hid hW
 have Gj:=Lib.hid Ev
 have HZW:=Lib.hid Zf
 clear hx hb iH oZ hZ hs rE Ev XX XY TZ Ze Zf hW
 go_enter func180,ntmps180
 go_wp2
 refine wp_loop_rounds 2 ?_
 rw [rounds_succ]
 go_wp2
 go_quiet (fail)
 go_wp2_with fail
 obtain ⟨n0,pH⟩:∃ n0,n0=nq:=⟨_,rfl⟩
 rw [←pH]
 clear pH
 refine (cN.out n0).mono ?_
 rintro e w1 ⟨rfl,m,m1,m2,m3,fK,XZ,⟨n',Ew,K8⟩,hm,hz⟩
 have u7:=fK.cell
 have KM:=fK.frozen
 have xH:s.data.toList.length=s.size:=rfl
 have bP:w1.cell? ⟨x.rb,0,none⟩=some (.int .u8 b.toNat):=by
  rw [XZ.cell]
  rw [HS.out]
  obtain ⟨m',rfl⟩:∃ m',m=m'+1:=⟨m-1,by omega⟩
  simp [mD]
 have wD:((0:Int)==(m:Int))=false:=by simp;omega
 have Zg:(m:Int)≤4096:=by omega
 have IV:¬ x.br=x.rb:=HX.out.ne4
 have y7:¬ x.rb=x.br:=fun h=>HX.out.ne4 h.symm
 have Qr:=Lib.hid fK
 have a3S:=Lib.hid XZ
 have a3T:=Lib.hid K8
 have HM:=Lib.hid hm
 have HZ:=Lib.hid hz
 clear fK XZ K8 hm hz cN hc hf
 go_wp2
 rw [rounds_succ]
 go_wp2
 go_quiet (fail)
 go_wp2
 go_quiet (fail)
 go_wp2
 go_ret2
 have Qq:wrap64 (b.toNat:Int)=b.toNat:=by have:=UInt8.toNat_lt b;unfold wrap64;omega
 try simp only [Qq]
 have rU:=(Qr.out.set 2 (.int .i64 1)).set 5 (.int .i64 b.toNat)
 have hM1:aK x.Sio w w1:=(Gj.out.drewN n0).trans (by rw [HW.out];exact HM.out) (fun _ _ h=>h)
 have X0:aK x.Sio w ((w1.setCell ⟨x.br,2,none⟩ (.int .i64 1)).setCell ⟨x.br,5,none⟩ (.int .i64 b.toNat)):=
  (hM1.setCell (p:=⟨x.br,2,none⟩) (Or.inl (Or.inl rfl)) _).setCell (p:=⟨x.br,5,none⟩) (Or.inl (Or.inl rfl)) _
 have iW:un=(s.data.toList.take m).tail++(s.extract m s.size).data.toList:=by
  rw [xX,HS.out]
  obtain ⟨m',rfl⟩:∃ m',m=m'+1:=⟨m-1,by omega⟩
  simp
 have iR:w1.heap.size=w.heap.size:=HZ.out.trans (by rw [←HW.out];exact HZW.out)
 have xH:s.data.toList.length=s.size:=rfl
 refine ⟨rfl,⟨1,m,n',b.toNat,_,s.extract m s.size,(s.data.toList.take m).tail,rU,(a3S.out.set_ne y7 _).set_ne y7 _,?_,?_,m1,m2,?_,?_,iW,?_⟩,⟨X0.os,X0.tape,X0.output,X0.size,X0.block⟩,by simp [World.setCell];exact iR⟩
 ·simp [mD,xH];omega
 ·have h:x.rd≠x.br:=fun h=>HX.out.ne5 h.symm
  exact (a3T.out.set_ne h _).set_ne h _
 ·simp [xH];omega
 ·intro j hj
  have hl:(s.data.toList.take m).length=m:=by rw [List.length_take,xH];omega
  have hj':1+j<(s.data.toList.take m).length:=by
   simp only [List.length_tail] at hj;omega
  rw [Gg _ _ _ hj']
  congr 3
  rw [List.getD,List.getD,List.getElem?_tail,Nat.add_comm 1 j]
 ·have:(s.extract m s.size).size=s.size-m:=by simp
  omega
theorem Qs (x:Cx) (hx:x.Ok) (w:World) (hb:Below x.B x.W0 w) (q n:Nat) (lb:Int) (arr:Array Value) (s:ByteArray) (hs:s.data.toList=[])
  (hZ:aJ w x.br (jA x q q .nilIface lb) 232) (oZ:aJ w x.rb arr 5) (gE:arr.size=4096) (iH:aJ w x.rd (AP x s n) 46)
  (hq:q≤4096) (sM:n+s.size≤1000000000) :
  Calls prog 180 #[.pointer (some ⟨x.br,0,none⟩)] w fun e w'=>e=.returned (.tuple #[.int .u8 0,sY x])∧pG x w' []∧aK x.Sio w w'∧w'.heap.size=w.heap.size:=by
 have hc:=hZ.cell
 have hf:=hZ.frozen
 have mF:((q:Int)==(q:Int))=true:=by simp
 have rE:s.toList.isEmpty=true:=by
  have:s.toList=s.data.toList:=by simp [ByteArray.toList_eq]
  rw [this,hs];rfl
 obtain ⟨W,hW⟩:∃ W,W=w.setCell ⟨x.br,6,none⟩ (.int .i64 (-1)):=⟨_,rfl⟩
 have Ev:aK x.Sio w W:=by rw [hW];exact (aK.refl x.Sio w).setCell (p:=⟨x.br,6,none⟩) (Or.inl (Or.inl rfl)) _
 have XX:aJ W x.br (jA x q q .nilIface lb) 232:=by rw [hW];exact hZ.set 6 _
 have XY:aJ W x.rb arr 5:=by rw [hW];exact oZ.set_ne (fun h=>hx.ne4 h.symm) _
 have TZ:aJ W x.rd (AP x s n) 46:=by rw [hW];exact iH.set_ne (fun h=>hx.ne5 h.symm) _
 have Ze:Below x.B x.W0 W:=aK.below hb hb.size Ev (fun i hi=>by rcases hi with h|h|h<;>subst h;exact hx.br;exact hx.rb;exact hx.rd)
 have Zf:W.heap.size=w.heap.size:=by rw [hW];simp [World.setCell]
 have cN:=Lib.hid (fun k=>O5 x hx (W.drewN k) (cA Ze k) q n lb s rE XX TZ hq)
 rw [hW] at cN
 have HX:=Lib.hid hx
 have HS:=Lib.hid hs
 have HW:=Lib.hid hW
 have Gj:=Lib.hid Ev
 have HZW:=Lib.hid Zf
 have IR:=Lib.hid XY
 have BZ:=Lib.hid TZ
 have tQ:(∃ u t,sY x=.iface u t):=by unfold sY;split<;>exact ⟨_,_,rfl⟩
 obtain ⟨u,t,tQ⟩:=tQ
 have Eu:=Lib.hid tQ
 clear hx hb iH oZ hZ hs rE Ev XX XY TZ Ze Zf hW tQ
 go_enter func180,ntmps180
 go_wp2
 refine wp_loop_rounds 2 ?_
 rw [rounds_succ]
 go_wp2
 go_quiet (fail)
 go_wp2_with fail
 obtain ⟨n0,pH⟩:∃ n0,n0=nq:=⟨_,rfl⟩
 rw [←pH]
 clear pH
 refine (cN.out n0).mono ?_
 rintro e w1 ⟨rfl,fK,hm,hz⟩
 rw [Eu.out] at fK
 have u7:=fK.cell
 have KM:=fK.frozen
 have wD:((0:Int)==(0:Int))=true:=by simp
 have Qr:=Lib.hid fK
 have HM:=Lib.hid hm
 have HZ:=Lib.hid hz
 clear fK hm hz cN hc hf
 go_wp2
 rw [rounds_succ]
 go_wp2
 go_quiet (fail)
 go_wp2
 go_ret2
 have rU:=Qr.out.set 4 .nilIface
 have hM1:aK x.Sio w w1:=(Gj.out.drewN n0).trans (by rw [HW.out];exact HM.out) (fun _ _ h=>Or.inl h)
 have X0:aK x.Sio w (w1.setCell ⟨x.br,4,none⟩ .nilIface):=hM1.setCell (p:=⟨x.br,4,none⟩) (Or.inl (Or.inl rfl)) _
 have iR:w1.heap.size=w.heap.size:=HZ.out.trans (by rw [←HW.out];exact HZW.out)
 have hm:aK (fun k=>k=x.br) (W.drewN n0) w1:=by rw [HW.out];exact HM.out
 have h1:x.rb≠x.br:=fun h=>HX.out.ne4 h.symm
 have h2:x.rd≠x.br:=fun h=>HX.out.ne5 h.symm
 have XZ:aJ w1 x.rb arr 5:=(show aJ (W.drewN n0) _ _ _ from IR.out).mod hm h1
 have K8:aJ w1 x.rd (AP x s n) 46:=(show aJ (W.drewN n0) _ _ _ from BZ.out).mod hm h2
 refine ⟨congrArg (fun v=>Ending.returned (.tuple #[.int .u8 0,v])) Eu.out.symm,⟨0,0,n,lb,arr,s,[],rU,XZ.set_ne h1 _,gE,K8.set_ne h2 _,by omega,by omega,rfl,(fun j hj=>by simp at hj),by rw [HS.out];rfl,sM⟩,⟨X0.os,X0.tape,X0.output,X0.size,X0.block⟩,by simp [World.setCell];exact iR⟩
theorem FH (x:Cx) (hx:x.Ok) (w:World) (hb:Below x.B x.W0 w) (b:UInt8) (un:Bs) (h:pG x w (b::un)) :
  Calls prog 180 #[.pointer (some ⟨x.br,0,none⟩)] w fun e w'=>e=.returned (.tuple #[.int .u8 b.toNat,.nilIface])∧pG x w' un∧aK x.Sio w w'∧w'.heap.size=w.heap.size:=by
 obtain ⟨r,q,n,lb,arr,s,us,hZ,oZ,gE,iH,hrq,hq,hl,oB,iW,sM⟩:=h
 cases us with
 | nil=>
  have:r=q:=by simp at hl;omega
  subst this
  exact Gh x hx w hb r n lb arr s b un (by simpa using iW.symm) hZ oZ gE iH hq sM
 | cons b' us=>
  simp at iW
  obtain ⟨rfl,rfl⟩:=iW
  exact XW x hx w r q n lb arr s b us hZ oZ gE iH (by simp at hl;omega) hq hl oB sM
theorem IW (x:Cx) (hx:x.Ok) (w:World) (hb:Below x.B x.W0 w) (h:pG x w []) :
  Calls prog 180 #[.pointer (some ⟨x.br,0,none⟩)] w fun e w'=>e=.returned (.tuple #[.int .u8 0,sY x])∧pG x w' []∧aK x.Sio w w'∧w'.heap.size=w.heap.size:=by
 obtain ⟨r,q,n,lb,arr,s,us,hZ,oZ,gE,iH,hrq,hq,hl,oB,iW,sM⟩:=h
 have T1:=iW.symm
 simp only [List.append_eq_nil_iff] at T1
 obtain ⟨rfl,hs⟩:=T1
 have:r=q:=by simp at hl;omega
 subst this
 exact Qs x hx w hb r n lb arr s hs hZ oZ gE iH hq sM
def BP (x:Cx) (v:Value):Option EK→Prop
 | none=>v=.nilIface
 | some .eof=>v=x.eofV
 | some .own=>v=FD
 | some .syn=>∃ a,v=.iface 109 (.pointer (some a))
 | some .other=>∃ a:Addr,v=.iface 192 (.pointer (some a))∧x.B≤a.block
def nL (x:Cx) (w:World) (v:Value) (buf:Bs):Prop:=
 (v=.slice none 0 0∧buf=[]) ∨
 ∃ g cap arr,v=.slice (some ⟨g,0,none⟩) buf.length cap∧aJ w g arr 5∧arr.size=cap∧buf.length≤cap∧cap≤9223372036854775807 ∧
  x.B≤g∧¬ x.S0 g∧∀ j,j<buf.length→arr[j]?=some (.int .u8 (buf.getD j 0).toNat)
def dQ:Value→Nat→Prop
 | .slice (some a) _ _,k=>k=a.block
 | _,_=>False
def pI (x:Cx) (v:DV) (rest:Bs):Prop:=
 ∃ pre,x.T=pre++rest∧v.off=pre.length∧v.line=rM pre∧(v.nb≠10→v.lstart=(pre.length:Int)+1-AK pre)∧(v.nb=10→v.lstart=(pre.length:Int)+1)
structure bX (x:Cx) (c:DC) (w:World) (v:DV) (rest:Bs) (e:Option EK) (buf:Bs):Prop where
 base:Below x.B x.W0 w
 dec:bO w x.d c v
 inp:∃ un,pG x w un∧((v.nb=-1∧rest=un)∨∃ b:UInt8,v.nb=b.toNat∧rest=b::un)
 pos:pI x v rest
 err:BP x v.err e
 fin:e=none∨(e=some (qK x.o.fails)∧rest=[])
 bf:nL x w v.bufv buf
structure iU (x:Cx) (c:DC):Prop where
 r:c.r=.iface 172 (.pointer (some ⟨x.br,0,none⟩))
 strict:c.strict=x.o.strict
structure jP (x:Cx) (c:DC) (w:World) (v:DV) (k:EK):Prop where
 base:Below x.B x.W0 w
 dec:bO w x.d c v
 err:BP x v.err (some k)
def Cx.S1 (x:Cx) (v:DV) (k:Nat):Prop:=x.S0 k∨dQ v.bufv k
structure cK (x:Cx) (w:World) (v:DV) (w':World) (v':DV):Prop where
 mod:aK (x.S1 v) w w'
 buf:∀ k,dQ v'.bufv k→dQ v.bufv k∨w.heap.size≤k
theorem cK.refl (x:Cx) (w:World) (v:DV):cK x w v w v:=⟨aK.refl _ _,fun _ h=>Or.inl h⟩
theorem cK.trans {x:Cx} {a b c:World} {u v t:DV} (h:cK x a u b v) (k:cK x b v c t):cK x a u c t:=
 ⟨h.mod.trans k.mod (fun i hi hs=>by
   rcases hs with hs|hs
   ·exact Or.inl hs
   ·rcases h.buf i hs with h'|h'
    ·exact Or.inr h'
    ·omega),
  fun i hi=>by
   rcases k.buf i hi with h'|h'
   ·exact h.buf i h'
   ·exact Or.inr (Nat.le_trans h.mod.size h')⟩
theorem Cx.Ok.s0 {x:Cx} (hx:x.Ok) {k:Nat} (h:x.S0 k):x.B≤k:=by
 rcases h with h|h|h|h<;>subst h
 ·exact hx.d
 ·exact hx.br
 ·exact hx.rb
 ·exact hx.rd
theorem nL.mod {x:Cx} {w w':World} {v:Value} {buf:Bs} {S:Nat→Prop} (h:nL x w v buf) (hm:aK S w w') (hS:∀ k,dQ v k→¬ S k):nL x w' v buf:=by
 rcases h with h|⟨g,cap,arr,hv,hb,r⟩
 ·exact Or.inl h
 ·exact Or.inr ⟨g,cap,arr,hv,hb.mod hm (hS g (by rw [hv];rfl)),r⟩
theorem nL.notS0 {x:Cx} {w:World} {v:Value} {buf:Bs} (h:nL x w v buf) (k:Nat) (hk:dQ v k):¬ x.S0 k:=by
 rcases h with ⟨h,_⟩|⟨g,cap,arr,hv,_,_,_,_,_,hn,_⟩
 ·rw [h] at hk;exact hk.elim
 ·rw [hv] at hk
  have:k=g:=hk
  subst this
  exact hn
theorem bX.step {x:Cx} (hx:x.Ok) {c:DC} {w w':World} {v v':DV} {rest rest':Bs} {e e':Option EK} {buf:Bs} (h:bX x c w v rest e buf) (dec:bO w' x.d c v') (hm:aK x.S0 w w')
  (inp:∃ un,pG x w' un∧((v'.nb=-1∧rest'=un)∨∃ b:UInt8,v'.nb=b.toNat∧rest'=b::un)) (pos:pI x v' rest') (err:BP x v'.err e') (fin:e'=none∨(e'=some (qK x.o.fails)∧rest'=[]))
  (hb:v'.bufv=v.bufv):bX x c w' v' rest' e' buf:=
 ⟨aK.below h.base h.base.size hm (fun _ hi=>hx.s0 hi),dec,inp,pos,err,fin,by rw [hb];exact h.bf.mod hm (fun k hk=>h.bf.notS0 k hk)⟩
theorem aK.stp {x:Cx} {w w':World} {v v':DV} (hm:aK x.S0 w w') (hb:v'.bufv=v.bufv):cK x w v w' v':=
 ⟨hm.mono (fun _ _ h=>Or.inl h),fun k hk=>Or.inl (by rw [←hb];exact hk)⟩
theorem AR (pre:Bs) (b:UInt8):rM (pre++[b])=rM pre+if b=10 then 1 else 0:=by
 unfold rM
 rw [List.filter_append,List.length_append]
 by_cases h:b=10<;>simp [h]<;>omega
theorem wR (pre:Bs) (b:UInt8):AK (pre++[b])=if b=10 then 1 else AK pre+1:=by
 unfold AK
 rw [List.reverse_append]
 by_cases h:b=10<;>simp [h]<;>omega
theorem O7 (l:Bs):1≤rM l:=by unfold rM;omega
theorem T2 (l:Bs):rM l≤l.length+1:=by unfold rM;have:=List.length_filter_le (fun b:UInt8=>b==10) l;omega
theorem X1 (l:Bs):AK l≤l.length+1:=by
 unfold AK
 have:=List.takeWhile_prefix (fun b:UInt8=>b != 10) (l:=l.reverse)
 have:=this.length_le
 simp at this
 omega
theorem pI.got {x:Cx} {v:DV} {b:UInt8} {rest:Bs} (h:pI x v (b::rest)) (lC:v.nb=-1∨v.nb=b.toNat) (v':DV) (_h1:v'.nb=-1) (h2:v'.off=v.off+1)
  (h3:v'.line=if b=10 then v.line+1 else v.line) (h4:v'.lstart=if b=10 then v.off+1 else v.lstart):pI x v' rest:=by
 obtain ⟨pre,hT,ho,hl,hs,_⟩:=h
 refine ⟨pre++[b],by simp [hT],by simp [h2,ho],?_,fun _=>?_,fun hh=>by omega⟩
 ·rw [h3,AR];by_cases hb:b=10<;>simp [hb,hl]
 ·rw [h4,wR]
  by_cases hb:b=10
  ·simp [hb,ho]
  ·have hn:v.nb≠10:=by
    rcases lC with h|h
    ·omega
    ·intro h'
     apply hb
     have:(b.toNat:Int)=10:=by omega
     exact UInt8.toNat_inj.1 (by simpa using (show b.toNat=10 by omega))
   rw [if_neg hb,if_neg hb,hs hn]
   simp
   omega
theorem pI.put {x:Cx} {v:DV} {b:UInt8} {rest:Bs} (h:pI x v rest) (lI:(b::rest) <:+ x.T) (hn:v.nb=-1) (v':DV) (h1:v'.nb=b.toNat) (h2:v'.off=v.off-1)
  (h3:v'.line=if b=10 then v.line-1 else v.line) (h4:v'.lstart=v.lstart):pI x v' (b::rest):=by
 obtain ⟨pre,hT,ho,hl,hs,_⟩:=h
 obtain ⟨p0,hp0⟩:=lI
 have gM:pre=p0++[b]:=by
  have:pre++rest=(p0++[b])++rest:=by rw [←hT,←hp0];simp
  exact List.append_cancel_right this
 subst gM
 refine ⟨p0,hp0.symm,by rw [h2,ho];simp,?_,fun Ew=>?_,fun Ew=>?_⟩
 ·rw [h3,hl,AR];by_cases hb:b=10<;>simp [hb]<;>omega
 ·rw [h4,hs (by omega),wR]
  have hb:b≠10:=by
   intro hb;subst hb
   rw [h1] at Ew
   exact Ew rfl
  rw [if_neg hb]
  simp
  omega
 ·have hb:b=10:=by
   rw [h1] at Ew
   exact UInt8.toNat_inj.1 (by simpa using (show b.toNat=10 by omega))
  rw [h4,hs (by omega),wR,if_pos hb]
  simp
end Go.Proofs.YtdjdjbpnbjdaaaaGreatDoor
