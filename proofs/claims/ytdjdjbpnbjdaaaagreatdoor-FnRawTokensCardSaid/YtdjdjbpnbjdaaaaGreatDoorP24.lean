/- Part of the proof that laws.FnRawTokens returns true for every argument. No conditions. -/
import Derived.Test.YtdjdjbpnbjdaaaaGreatDoorP23
import Derived.Test.YtdjdjbpnbjdaaaaGreatDoorP17
import Derived.Stop.Asserts
set_option linter.all false
set_option maxHeartbeats 8000000
set_option maxRecDepth 100000
namespace Go.Proofs.YtdjdjbpnbjdaaaaGreatDoor
open Go Go.RowKit Tryz
theorem a1j (a b c:Bs) (w:World):(binOp .neq 64 (.agg #[aB a,aB b,aB c]) (.agg #[aB a,aB b,aB c])).run prog w=.ok (.bool false) w:=by
 have e:∀ (d:Nat) (x:Bs) (w:World),(Op.equalIn (d+1) 9 (aB x) (aB x)).run prog w=.ok true w:=fun d x w=>by
  rw [run_equalIn_string w d _ _ _ underlying9];simp
 have u1:=underlying9
 rw [run_neq_struct,show (10000:Nat)=9999+1 from rfl,run_equalIn_agg w 9999 _ _ _ (by kernel_rfl) (by kernel_rfl)]
 simp only [Program.fieldsOf,underlying64]
 go_simp
abbrev plV (p:cH) (sa:Option Addr) (sl sc:Nat):Value:=.agg #[.int .i64 p.kind,aB p.space,aB p.loc,.slice sa sl sc,aB p.text,.int .i64 p.at']
def a1k (w1:World) (b:Nat) (n:Nat) (k:Nat) (a:Act) (w:World):Prop:=
 ∃ f i,a=fr 59 f [(2,.pointer (some ⟨b,0,none⟩)),(3,.pointer (some ⟨b+1,0,none⟩)),(43,.int .i64 (n:Nat)),(44,.int .i64 (i:Nat))]∧(∃ j,w=w1.drewN j)∧k=n-i∧i≤n
theorem AB {w:World} {base:Nat} {e:TypeId} {sa:Option Addr} {sl sc:Nat} {ats:List eI} (h:w.ownsRow base e 3 (.slice sa sl sc) ats.length (aN ats)) {i:Nat} {a:eI} (ha:ats[i]?=some a) :
  ∃ g,sa=some ⟨g,0,none⟩∧sl=ats.length∧w.cell? ⟨g,i*3,none⟩=some (aB a.1)∧w.cell? ⟨g,i*3+1,none⟩=some (aB a.2.1)∧w.cell? ⟨g,i*3+2,none⟩=some (aB a.2.2):=by
 have hi:=(List.getElem?_eq_some_iff.1 ha).1
 rcases h.2 with ⟨_,h9⟩|⟨g,cap,cur,h3,_,h4,_,_,_,h5⟩
 ·omega
 ·simp only [Value.slice.injEq] at h3
  obtain ⟨rfl,rfl,rfl⟩:=h3
  obtain ⟨k1,k2,k3⟩:=yD h5 ha
  have E7:aJ w g cur e:=h4
  exact ⟨g,rfl,rfl,(E7.cell _).trans k1,(E7.cell _).trans k2,(E7.cell _).trans k3⟩
theorem JY {w:World} {base:Nat} {e:TypeId} {sa:Option Addr} {sl sc n:Nat} {xs:List Value} {sz:Nat} (h:w.ownsRow base e sz (.slice sa sl sc) n xs):sl=n:=by
 rcases h.2 with ⟨h3,h9⟩|⟨g,cap,cur,h3,_⟩
 ·simp only [Value.slice.injEq] at h3;omega
 ·simp only [Value.slice.injEq] at h3;exact h3.2.1
theorem Kb (w0:World) (p:cH) (bF:p.attrs.length≤1000000000) (b1 b2:Nat) (sa:Option Addr) (sl sc:Nat) (sa':Option Addr) (sl' sc':Nat) (h1:w0.ownsRow b1 64 3 (.slice sa sl sc) p.attrs.length (aN p.attrs)) (h2:w0.ownsRow b2 64 3 (.slice sa' sl' sc') p.attrs.length (aN p.attrs)) :
  Calls prog 17 #[plV p sa sl sc,plV p sa' sl' sc'] w0 fun en w'=>en=.returned (.bool true)∧Below w0.heap.size w0 w':=by
 have e1:=JY h1
 have e2:=JY h2
 subst e1 e2
 obtain ⟨w1,qF⟩:∃ w1,w1=(w0.alloc (.cells #[.int .i64 p.kind,aB p.space,aB p.loc,.slice sa p.attrs.length sc,aB p.text,.int .i64 p.at'] 61)).alloc (.cells #[.int .i64 p.kind,aB p.space,aB p.loc,.slice sa' p.attrs.length sc',aB p.text,.int .i64 p.at'] 61):=⟨_,rfl⟩
 have eZ:Below w0.heap.size w0 w1:=by rw [qF];exact ((Below.refl _ w0).alloc (Nat.le_refl _) _).alloc (by simp) _
 have k8:aJ w1 w0.heap.size #[.int .i64 p.kind,aB p.space,aB p.loc,.slice sa p.attrs.length sc,aB p.text,.int .i64 p.at'] 61:=by rw [qF];exact (aJ.new w0 _ _).alloc _
 have vG:aJ w1 (w0.heap.size+1) #[.int .i64 p.kind,aB p.space,aB p.loc,.slice sa' p.attrs.length sc',aB p.text,.int .i64 p.at'] 61:=by
  have:=aJ.new (w0.alloc (.cells #[.int .i64 p.kind,aB p.space,aB p.loc,.slice sa p.attrs.length sc,aB p.text,.int .i64 p.at'] 61)) #[.int .i64 p.kind,aB p.space,aB p.loc,.slice sa' p.attrs.length sc',aB p.text,.int .i64 p.at'] 61
  rw [qF];simpa using this
 have H1:=Lh (aG (S:=fun _=>False) h1 (aH eZ _) (fun _ _=>id))
 have H2:=Lh (aG (S:=fun _=>False) h2 (aH eZ _) (fun _ _=>id))
 have o5:=Lh eZ
 have HA:=Lh k8
 have HB:=Lh vG
 have cL:=Lh bF
 clear h1 h2 eZ k8 vG bF
 refine eJ 59 func17 [_,_] fun f=>?_
 simp only [aE]
 refine vT 1 ?_
 rw [←qF]
 clear qF
 have wG:=HA.out.cell
 have Pb:=HB.out.cell
 (refine vg ?_;intro K hK)
 (refine cJ [2,3,43,44] fun f=>?_)
 have HCA:=Lh wG
 have HCB:=Lh Pb
 clear wG Pb
 refine wp_loop_ghost_k (a1k w1 w0.heap.size p.attrs.length) p.attrs.length ⟨f,0,rfl,⟨0,rfl⟩,by simp,Nat.zero_le _⟩ ?_
 rintro k _ w ⟨f,i,rfl,⟨j,hjw⟩,hk,hi⟩ J K2 hJ cY
 have Fs:=Lh hjw
 clear hjw
 have HJ:=Lh hJ
 have dN:=Lh cY
 have HK:=Lh hk
 clear hJ cY hk
 by_cases bB:i<p.attrs.length
 ·have h1:(i:Int)<(p.attrs.length:Int):=by omega
  have h0:(0:Int)≤(i:Int):=by omega
  have qF:IntKind.i64.wrap ((i:Int)+1)=((i+1:Nat):Int):=by rw [IntKind.wrap_i64];have:=cL.out;omega
  obtain ⟨a,ha⟩:∃ a,p.attrs[i]?=some a:=⟨p.attrs[i],by simp [bB]⟩
  obtain ⟨ga,rfl,_,a0,a1,a2⟩:=AB H1.out ha
  obtain ⟨gb,rfl,_,b0,b1,b2⟩:=AB H2.out ha
  have a0':w.cell? ⟨ga,i*3,none⟩=some (aB a.1):=by rw [Fs.out];exact a0
  have a1':w.cell? ⟨ga,i*3+1,none⟩=some (aB a.2.1):=by rw [Fs.out];exact a1
  have a2':w.cell? ⟨ga,i*3+2,none⟩=some (aB a.2.2):=by rw [Fs.out];exact a2
  have b0':w.cell? ⟨gb,i*3,none⟩=some (aB a.1):=by rw [Fs.out];exact b0
  have b1':w.cell? ⟨gb,i*3+1,none⟩=some (aB a.2.1):=by rw [Fs.out];exact b1
  have b2':w.cell? ⟨gb,i*3+2,none⟩=some (aB a.2.2):=by rw [Fs.out];exact b2
  have a5n:w.cell? ⟨w0.heap.size,3,none⟩=some (.slice (some ⟨ga,0,none⟩) p.attrs.length sc):=by rw [Fs.out];exact HCA.out 3
  have a5o:w.cell? ⟨w0.heap.size+1,3,none⟩=some (.slice (some ⟨gb,0,none⟩) p.attrs.length sc'):=by rw [Fs.out];exact HCB.out 3
  have cB:=fun w=>a1j a.1 a.2.1 a.2.2 w
  clear ha a0 a1 a2 b0 b1 b2
  (revert K;refine vg ?_;(repeat with_reducible intro K hK))
  (refine cJ [2,3,5,43,44] fun f=>?_)
  go_quiet (fail)
  ((repeat revert K);refine vg ?_;intro K hK)
  (refine Kk [2,3,43,44] fun f=>?_)
  exact dN.out _ _ ⟨p.attrs.length-(i+1),by rw [HK.out];omega,HJ.out _ _ _ ⟨f,i+1,rfl,⟨j+nq,by rw [Fs.out,World.drewN_drewN]⟩,rfl,bB⟩⟩
 ·have sX:i=p.attrs.length:=by omega
  subst sX
  have h1:¬ ((p.attrs.length:Int)<(p.attrs.length:Int)):=by omega
  (revert K;refine vg ?_)
  (refine cW ?_)
  exact ⟨rfl,by rw [Fs.out];exact cA o5.out j⟩
theorem pI.col' {x:Cx} {v:DV} {rest:Bs} (hx:x.Ok) (h:pI x v rest):-1000000000000≤v.off-v.lstart∧v.off-v.lstart≤1000000000000:=by
 by_cases hn:v.nb=10
 ·obtain ⟨pre,hT,ho,_,_,hs⟩:=h
  have h1:=hs hn
  omega
 ·exact h.col hx hn
theorem nL.lt {x:Cx} {w:World} {v:Value} {b:Bs} (h:nL x w v b) {g cap n:Nat} (hv:v=.slice (some ⟨g,0,none⟩) n cap):g<w.heap.size:=by
 rcases h with ⟨h1,_⟩|⟨g',cap',arr,h1,hg,_⟩
 ·rw [h1] at hv;cases hv
 ·rw [h1] at hv
  simp only [Value.slice.injEq,oY,Addr.mk.injEq] at hv
  obtain ⟨⟨rfl,_⟩,_⟩:=hv
  exact hg.lt
theorem Un (x:Cx) (hx:x.Ok) (c:DC) (w:World) (v:DV) (rest:Bs) (e:Option EK) (buf:Bs) (hR:bX x c w v rest e buf) (pre:Bs) (gM:x.T=pre++rest) (B:Nat) (tv:Value) (tk:aP) (ht:jN w v.bufv B tv tk) (iK:∀ nm ats,tk=.start nm ats→ats.length≤1000000000) :
  Calls prog 15 #[tv,bS x] w (D1 w (tk.itok pre) v.line (v.off-v.lstart+1)):=by
 obtain ⟨b1,b2⟩:=hR.pos.col' hx
 have ho:v.off=(pre.length:Int):=by
  obtain ⟨p,hT,ho,_⟩:=hR.pos
  have:p=pre:=List.append_cancel_right (by rw [←hT,←gM])
  rw [←this];exact ho
 refine Jt x c w v hR.dec b1 b2 tv _ (fun f w' eZ hz hb gE=>?_)
 have A8:aJ w' (w.heap.size+1) #[.int .i64 0,.string ⟨#[]⟩,.string ⟨#[]⟩,.slice none 0 0,.string ⟨#[]⟩,.int .i64 (pre.length:Nat),.int .i64 v.line,.int .i64 (v.off-v.lstart+1)] 55:=by
  rw [←ho];exact hb
 cases tk with
 | text d=>
  obtain ⟨sv,rfl,⟨g,cap,n,rfl,rF,lY,_⟩⟩:=ht
  exact Uf w w' pre.length _ _ eZ hz A8 d g cap (lY.below eZ) (hR.bf.lt rF) f
 | comment d=>
  obtain ⟨sv,rfl,⟨g,cap,n,rfl,rF,lY,_⟩⟩:=ht
  exact a1b w w' pre.length _ _ eZ hz A8 d g cap (lY.below eZ) (hR.bf.lt rF) f
 | dir d=>
  obtain ⟨sv,rfl,⟨g,cap,n,rfl,rF,lY,_⟩⟩:=ht
  exact a1c w w' pre.length _ _ eZ hz A8 d g cap (lY.below eZ) (hR.bf.lt rF) f
 | proc tg d=>
  obtain ⟨sv,rfl,⟨g,cap,n,rfl,rF,lY,_⟩⟩:=ht
  exact a1d w w' pre.length _ _ eZ gE hz A8 tg d g cap (lY.below eZ) (hR.bf.lt rF) f
 | fin nm=>
  rw [show tv=W2 nm from ht]
  exact a1e w w' pre.length _ _ eZ gE hz A8 nm f
 | start nm ats=>
  obtain ⟨sv,rfl,cB,l7⟩:=ht
  rcases l7.2 with h9|⟨g,cap,cur,rfl,_,SY,_,_,_,kD⟩
  ·exact absurd (h9.2▸h9.1) cB
  ·have E7:aJ w g cur 99:=SY
   exact Ka w w' pre.length _ _ eZ gE hz A8 nm ats (iK nm ats rfl) g cap cur E7.lt (aJ.mod (S:=fun _=>False) E7 (aH eZ _) id) kD f
end Go.Proofs.YtdjdjbpnbjdaaaaGreatDoor
namespace Go.Proofs.YtdjdjbpnbjdaaaaGreatDoor
open Go Go.RowKit Go.Extern.Stop Go.Stop Go.Extern Tryz
abbrev KR (t:TypeId):Value:=.iface 198 (.agg #[.pointer (some ⟨16,t,none⟩)])
theorem uP (v:Value) (w:World):(Extern.ReflectliteType.typeOf #[.iface 112 v]).run prog w=.ok (KR 112) w:=by kernel_rfl
def Kc:Array Value→Sem Value:=ReflectliteType.method fun t=>do Rtype.noPackHeld "Comparable" t;pure (.bool (←typeInfo t).comparable)
theorem sI (w:World):(Kc #[.agg #[.pointer (some ⟨16,112,none⟩)]]).run prog w=.ok (.bool true) w:=by kernel_rfl
theorem kI (v:Value) (w:World):(Go.method 408 198 v "Comparable").run prog w=.ok (187,v) w:=by kernel_rfl
theorem Kd (v:Value) (xT:TypeId) (w:World):(Instr.typeAssert (.iface 109 v) xT 200 true).run prog w=.ok (.tuple #[.nilIface,.bool false]) w:=run_typeAssert_lacksB underlying200 (by kernel_rfl) (by kernel_rfl) v xT w
theorem Ke (v:Value) (xT:TypeId) (w:World):(Instr.typeAssert (.iface 109 v) xT 203 true).run prog w=.ok (.tuple #[.nilIface,.bool false]) w:=run_typeAssert_lacksB underlying203 (by kernel_rfl) (by kernel_rfl) v xT w
theorem Kf (v:Value) (xT:TypeId) (w:World):(Instr.typeAssert (.iface 109 v) xT 205 true).run prog w=.ok (.tuple #[.nilIface,.bool false]) w:=run_typeAssert_lacksB underlying205 (by kernel_rfl) (by kernel_rfl) v xT w
theorem Kg (v:Value) (xT:TypeId) (w:World):(Instr.typeAssert (.iface 192 v) xT 200 true).run prog w=.ok (.tuple #[.nilIface,.bool false]) w:=run_typeAssert_lacksB underlying200 (by kernel_rfl) (by kernel_rfl) v xT w
theorem SZ (v:Value) (xT:TypeId) (w:World):(Instr.typeAssert (.iface 192 v) xT 203 true).run prog w=.ok (.tuple #[.nilIface,.bool false]) w:=run_typeAssert_lacksB underlying203 (by kernel_rfl) (by kernel_rfl) v xT w
theorem S2 (v:Value) (xT:TypeId) (w:World):(Instr.typeAssert (.iface 192 v) xT 205 true).run prog w=.ok (.tuple #[.nilIface,.bool false]) w:=run_typeAssert_lacksB underlying205 (by kernel_rfl) (by kernel_rfl) v xT w
theorem Kh (v:Value) (xT:TypeId) (w:World):(Instr.typeAssert (.iface 192 v) xT 210 true).run prog w=.ok (.tuple #[.nilIface,.bool false]) w:=run_typeAssert_lacksB underlying210 (by kernel_rfl) (by kernel_rfl) v xT w
theorem Bl (a b:Value) (w:World):(binOp .eql 49 (.iface 109 a) (.iface 112 b)).run prog w=.ok (.bool false) w:=
 gU a b w underlying49 (by decide)
theorem Bm (a b:Value) (w:World):(binOp .eql 49 (.iface 192 a) (.iface 112 b)).run prog w=.ok (.bool false) w:=
 gU a b w underlying49 (by decide)
theorem Bn (w:World):(binOp .eql 49 (.iface 112 (.agg #[])) (.iface 112 (.agg #[]))).run prog w=.ok (.bool true) w:=by kernel_rfl
theorem VP (a:Value) (w:World):Calls prog 36 #[.iface 109 a,FD] w fun e w'=>e=.returned (.bool false)∧w'=w:=by
 have h8:=@run_callFunc_extern prog 74 _ Extern.ReflectliteType.typeOf func74 (by kernel_rfl) (by kernel_rfl) (by kernel_rfl) (by kernel_rfl)
 have F9:=@run_callFunc_extern prog 187 _ Kc func187 (by kernel_rfl) (by kernel_rfl) (by kernel_rfl) (by kernel_rfl)
 have tT:=uP
 have cT:=sI
 have mR:=kI
 have nE:=Kd
 have uE:=Ke
 have vE:=Kf
 have CZ:=Bl
 go_enter func36,ntmps36
 go_wp2
 refine wp_loop_rounds 1 ?_
 rw [rounds_succ]
 go_wp2
 go_ret
 exact ⟨rfl,rfl⟩
theorem VQ (a:Value) (w:World):Calls prog 36 #[.iface 192 a,FD] w fun e w'=>e=.returned (.bool false)∧w'=w:=by
 have h8:=@run_callFunc_extern prog 74 _ Extern.ReflectliteType.typeOf func74 (by kernel_rfl) (by kernel_rfl) (by kernel_rfl) (by kernel_rfl)
 have F9:=@run_callFunc_extern prog 187 _ Kc func187 (by kernel_rfl) (by kernel_rfl) (by kernel_rfl) (by kernel_rfl)
 have tT:=uP
 have cT:=sI
 have mR:=kI
 have nE:=Kg
 have uE:=SZ
 have vE:=S2
 have CZ:=Bm
 go_enter func36,ntmps36
 go_wp2
 refine wp_loop_rounds 1 ?_
 rw [rounds_succ]
 go_wp2
 go_ret
 exact ⟨rfl,rfl⟩
theorem VR (w:World):Calls prog 36 #[FD,FD] w fun e w'=>e=.returned (.bool true)∧w'=w:=by
 have h8:=@run_callFunc_extern prog 74 _ Extern.ReflectliteType.typeOf func74 (by kernel_rfl) (by kernel_rfl) (by kernel_rfl) (by kernel_rfl)
 have F9:=@run_callFunc_extern prog 187 _ Kc func187 (by kernel_rfl) (by kernel_rfl) (by kernel_rfl) (by kernel_rfl)
 have tT:=uP
 have cT:=sI
 have mR:=kI
 have CZ:=Bn
 go_enter func36,ntmps36
 go_wp2
 refine wp_loop_rounds 1 ?_
 rw [rounds_succ]
 go_wp2
 go_ret
 exact ⟨rfl,rfl⟩
theorem a1l (z:Sem Value) (f:TypeId→Addr→Nat→Nat→Sem Value) (v:Value) :
  ReflectliteValue.method z f #[v]=(do match ←ReflectliteValue.parts v with|none=>z|some (t,a,fl)=>f t a fl (fl % 32)):=rfl
theorem GT (t:Addr) (w:World):(ReflectliteValue.unpack (.iface 114 (.pointer (some t)))).run prog w
  = .ok (.agg #[.pointer (some ⟨16,114,none⟩),.pointer (some ⟨w.heap.size,0,none⟩),.int .u64 150]) (w.alloc (.cells #[.pointer (some t)] 114)):=by kernel_rfl
def Uo:Array Value→Sem Value:=ReflectliteValue.methodAny (ReflectliteValue.valueError "reflectlite.Value.Type" 0) (fun t _ _ _=>ReflectliteType.toType t)
theorem Bo (a:Addr) (w:World):(Uo #[.agg #[.pointer (some ⟨16,114,none⟩),.pointer (some a),.int .u64 150]]).run prog w=.ok (KR 114) w:=by kernel_rfl
theorem yE (h:Value) (w:World):(Go.method 408 198 (.agg #[h]) "Kind").run prog w=.ok (160,h) w:=by kernel_rfl
def Ki:Array Value→Sem Value:=ReflectliteType.abiMethod fun t=>do pure (.int .u8 (←Rtype.kind t))
theorem S3 (w:World):(Ki #[.pointer (some ⟨16,114,none⟩)]).run prog w=.ok (.int .u8 22) w:=by kernel_rfl
theorem S4 (w:World):(Ki #[.pointer (some ⟨16,109,none⟩)]).run prog w=.ok (.int .u8 22) w:=by kernel_rfl
theorem yF (h:Value) (w:World):(Go.method 408 198 (.agg #[h]) "Elem").run prog w=.ok (188,.agg #[h]) w:=by kernel_rfl
theorem yG (h:Value) (w:World):(Go.method 408 198 (.agg #[h]) "Implements").run prog w=.ok (189,.agg #[h]) w:=by kernel_rfl
theorem uQ (h:Value) (w:World):(Go.method 408 198 (.agg #[h]) "AssignableTo").run prog w=.ok (186,.agg #[h]) w:=by kernel_rfl
def Up:Array Value→Sem Value:=ReflectliteType.method ReflectliteType.elem
theorem Bp (w:World):(Up #[.agg #[.pointer (some ⟨16,114,none⟩)]]).run prog w=.ok (KR 109) w:=by kernel_rfl
def Uq:Array Value→Sem Value:=ReflectliteType.relation "Implements" ReflectliteType.implements_
theorem Bq (w:World):(Uq #[.agg #[.pointer (some ⟨16,109,none⟩)],KR 49]).run prog w=.ok (.bool true) w:=by kernel_rfl
def Kj:Array Value→Sem Value:=ReflectliteType.relation "AssignableTo" ReflectliteType.assignableTo
theorem VS (v:Value) (w:World):(ReflectliteType.typeOf #[.iface 109 v]).run prog w=.ok (KR 109) w:=by kernel_rfl
theorem VT (v:Value) (w:World):(ReflectliteType.typeOf #[.iface 192 v]).run prog w=.ok (KR 192) w:=by kernel_rfl
theorem VU (w:World):(Kj #[.agg #[.pointer (some ⟨16,109,none⟩)],KR 109]).run prog w=.ok (.bool true) w:=by kernel_rfl
theorem VV (w:World):(Kj #[.agg #[.pointer (some ⟨16,192,none⟩)],KR 109]).run prog w=.ok (.bool false) w:=by kernel_rfl
theorem QU (e:Addr) (w:World):(ReflectliteValue.unpack (.iface 109 (.pointer (some e)))).run prog w
  = .ok (.agg #[.pointer (some ⟨16,109,none⟩),.pointer (some ⟨w.heap.size,0,none⟩),.int .u64 150]) (w.alloc (.cells #[.pointer (some e)] 109)):=by kernel_rfl
theorem NB (a:Addr) (w:World):(ReflectliteValue.parts (.agg #[.pointer (some ⟨16,114,none⟩),.pointer (some a),.int .u64 150])).run prog w=.ok (some (114,a,150)) w:=by kernel_rfl
def Kl:Array Value→Sem Value:=ReflectliteValue.method (ReflectliteValue.valueError "reflectlite.Value.IsNil" 0) ReflectliteValue.isNil
theorem S5 (a p:Addr) (W:World) (ha:W.cell? a=some (.pointer (some p))):(Kl #[.agg #[.pointer (some ⟨16,114,none⟩),.pointer (some a),.int .u64 150]]).run prog W=.ok (.bool false) W:=by
 unfold Kl
 rw [a1l]
 simp only [Sem.run_bind,NB,Result.andThen]
 simp [ReflectliteValue.isNil,loadVar,isAgg,underlying,underlying114,ha,Result.andThen]
def Ur:Array Value→Sem Value:=ReflectliteValue.method (ReflectliteValue.valueError "reflectlite.Value.Elem" 0) ReflectliteValue.elem
theorem Br (w:World):(Rtype.elem? 114).run prog w=.ok (some 109) w:=by kernel_rfl
theorem a4V (p:Addr) (w:World):(ReflectliteValue.mk 109 p ReflectliteValue.flagAddr).run prog w=.ok (.agg #[.pointer (some ⟨16,109,none⟩),.pointer (some p),.int .u64 406]) w:=by kernel_rfl
theorem Km (a p : Addr) (W : World) (ha : W.cell? a = some (.pointer (some p))) : (Ur #[.agg #[.pointer (some ⟨16, 114, none⟩), .pointer (some a), .int .u64 150]]).run prog W
      = .ok (.agg #[.pointer (some ⟨16,109,none⟩),.pointer (some p),.int .u64 406]) W:=by
  unfold Ur
  rw [a1l]
  simp only [Sem.run_bind,NB,Result.andThen]
  simp [ReflectliteValue.elem,loadVar,isAgg,underlying,underlying114,ha,Result.andThen,Br,a4V]
end Go.Proofs.YtdjdjbpnbjdaaaaGreatDoor
