/- Part of the proof that laws.FnRawTokens returns true for every argument. No conditions. -/
import Derived.Test.YtdjdjbpnbjdaaaaGreatDoorP16
import Derived.Test.YtdjdjbpnbjdaaaaGreatDoorP13
import Derived.Stop.Asserts
import Derived.LoopN
import Derived.Maps.AppendAt
import Derived.Test.YtdjdjbpnbjdaaaaGreatDoorP15
set_option linter.all false
set_option maxHeartbeats 8000000
set_option maxRecDepth 100000
namespace Go.Proofs.YtdjdjbpnbjdaaaaGreatDoor
open Go Go.RowKit Tryz
def a0o (x:Cx) (c:DC) (w0:World) (v0:DV) (l0:Bs) (tg:Bs) (k:Nat) (a:Act) (w:World):Prop:=
 ∃ f v rest b0 buf e,a=fr 731 f [(0,bS x),(8,aB tg),(9,.int .u8 (UInt8.toNat b0))]∧bX x c w v rest e buf∧cK x w0 v0 w v∧k=rest.length ∧
  kJ x.o.fails l0 0 []=kJ x.o.fails rest b0 buf∧(b0=63→1≤buf.length)∧buf.length+rest.length=l0.length
theorem Z4 {o:cU} {rest tg r:Bs} (h:eX o.fails rest=.ok (tg,r)):FC o rest=match kJ o.fails (aM r) 0 [] with
 | .error e=>.error e
 | .ok (inst,r2)=>qX o tg inst r2:=by
 unfold FC
 rw [h]
 rfl
theorem a0p (x:Cx) (hx:x.All) (B8:lQ x.W0) (s9:3<x.B) (c:DC) (dR:iU x c) (w:World) (v:DV) (rest:Bs) (e:Option EK) (buf:Bs) (h:bX x c w v rest e buf) (Q:Exit→Act→World→Prop)
  (hQ:∀ f w' t e,jC x c w v (FC x.o rest) t e w'→Q .ret (fr 731 f [(2,t),(3,e)]) w') (f:Nat→Value) :
  (dM 37).wp prog Q (fr 731 f [(0,bS x)]) w:=by
 have lD:=Lh (YT x hx.toFit c dR w v rest e buf h)
 have HX:=Lh hx
 have Fi:=Lh B8
 have VD:=Lh s9
 have HD:=Lh dR
 have HQ:=Lh hQ
 have ON:=Lh (show rest.length≤1000000000 from Nat.le_trans (h.suf.length_le) hx.len)
 clear h hx B8 s9 dR hQ
 unfold dM
 conv=>arg 2;whnf
 (refine vg ?_;(repeat with_reducible intro K hK))
 refine lD.out.mono ?_
 rintro e2 w2 ⟨v2,gS,mG⟩
 have gH:=Lh gS
 clear gS lD
 cases hn:eX x.o.fails rest with
 | error k=>
  rw [hn] at mG
  obtain ⟨rfl,jL⟩:=mG
  have dB:=Lh (show FC x.o rest=.error k by unfold FC;rw [hn])
  have nC:=Lh (show xM (.error k:Except EK (aP×Bs)) from mJ (LW _ _) hn)
  rcases jL with hE|⟨rfl,r,b,hR⟩
  ·obtain ⟨t1,u1,oQ⟩:=hE.err.iface
   have HE:=Lh hE
   have hc:=hE.dec.cell
   have hf:=hE.dec.frozen
   have HU:=Lh oQ
   clear hE hn
   ((repeat revert K);refine vS ?_;(repeat with_reducible intro K hK))
   ((refine cJ [0] fun f=>?_);go_quiet (fail);((repeat revert K);refine vg ?_;intro K hK);refine Qk [2,3] fun f=>?_)
   exact HQ.out f _ _ _ (lP.o ⟨v2,gH.out.drawn _,by rw [dB.out];exact ⟨rfl,HU.out.symm,HE.out.drewN _⟩⟩ (by rw [dB.out];exact nC.out))
  ·have he:v2.err=.nilIface:=hR.err
   have hc:=hR.dec.cell
   have hf:=hR.dec.frozen
   have qS:=Lh (fun msg=>g7 HX.out.toOk hR msg)
   clear hR hn
   ((repeat revert K);refine vS ?_;(repeat with_reducible intro K hK))
   refine (qS.out _).mono ?_
   rintro e3 w3 ⟨a9,rfl,hS⟩
   have tE:=hS.dec.cell
   have sZ:=hS.dec.frozen
   have HS:=Lh hS
   clear hS hc hf he
   ((repeat revert K);refine vS ?_;(repeat with_reducible intro K hK))
   ((refine cJ [0] fun f=>?_);go_quiet (fail);((repeat revert K);refine vg ?_;intro K hK);refine Qk [2,3] fun f=>?_)
   exact HQ.out f _ _ _ (lP.o ⟨_,(gH.out.trans HS.out.stp).drawn _,by rw [dB.out];exact ⟨rfl,rfl,HS.out.err.drewN _⟩⟩ (by rw [dB.out];exact nC.out))
 | ok p=>
  obtain ⟨tg,r⟩:=p
  rw [hn] at mG
  obtain ⟨rfl,hR⟩:=mG
  have dB:=Lh (Z4 (o:=x.o) hn)
  have fY:=Lh (xY x HX.out.toOk c HD.out w2 v2 r none tg hR)
  have Z5:=Lh (show r.length≤1000000000 from by have:=(y4 hn).2;have:=ON.out;omega)
  clear hR hn
  ((repeat revert K);refine vS ?_;(repeat with_reducible intro K hK))
  refine fY.out.mono ?_
  rintro e3 w3 ⟨rfl,v3,e3',hP⟩
  have wH:=Lh (gH.out.s0 hP.mod hP.bufv)
  have B1:=Lh (rV x HX.out.toOk c w3 v3 (aM r) e3' tg hP.rd)
  have Sv:=Lh (show (aM r).length≤1000000000 from by have:=(eO r).length_le;have:=Z5.out;omega)
  clear hP fY
  ((repeat revert K);refine vS ?_;(repeat with_reducible intro K hK))
  refine B1.out.mono ?_
  rintro e5 w5 ⟨rfl,v5,Oc,PK,jM,fL,OL⟩
  have rG:=Lh (wH.out.trans (cK.ofS0 fL jM))
  have Fh:=Lh Oc
  clear Oc PK jM fL OL B1
  obtain ⟨l0,wJ⟩:∃ l0,l0=aM r:=⟨_,rfl⟩
  rw [←wJ] at Fh Sv dB
  clear wJ
  ((repeat revert K);refine vS ?_;intro K hK)
  (refine cJ [0,8,9] fun f=>?_)
  refine wp_loop_ghost_k (a0o x c w v l0 tg) l0.length ⟨f,v5,l0,0,[],e3',rfl,Fh.out,rG.out,rfl,rfl,fun h=>absurd h (by decide),by simp⟩ ?_
  rintro k _ w6 ⟨f,v6,rest6,b0,bf,e6,rfl,h6,yX,hk,ZT,MF,bF⟩ J K2 hJ cY
  have HJ:=Lh hJ
  have dN:=Lh cY
  have nD:=Lh yX
  have HK:=Lh hk
  have Fc:=Lh ZT
  have LB:=Lh MF
  have cL:=Lh bF
  clear hJ cY yX hk ZT MF bF
  cases rest6 with
  | nil=>
   have fD:=Lh (bJ x HX.out.toOk c HD.out w6 v6 e6 bf h6)
   have iC:=Lh (show FC x.o rest=.error (bW x.o.fails) by rw [dB.out,Fc.out];rfl)
   clear h6
   (revert K;refine vg ?_;(repeat with_reducible intro K hK))
   refine fD.out.mono ?_
   rintro e7 w7 ⟨rfl,v7,hE,sP,fU⟩
   have rH:=Lh (nD.out.s0 fU sP)
   obtain ⟨t1,u1,oQ⟩:=hE.err.iface
   have HE:=Lh hE
   have hc:=hE.dec.cell
   have hf:=hE.dec.frozen
   have HU:=Lh oQ
   clear hE fU sP fD
   ((repeat revert K);refine vS ?_;(repeat with_reducible intro K hK))
   ((refine cJ [0] fun f=>?_);go_quiet (fail);((repeat revert K);refine vg ?_;(repeat with_reducible intro K hK));refine Qk [2,3] fun f=>?_)
   exact HQ.out f _ _ _ (lP.o ⟨v7,rH.out.drawn _,by rw [iC.out];exact ⟨rfl,HU.out.symm,HE.out.drewN _⟩⟩ (by rw [iC.out];exact aR _))
  | cons b r6=>
   have fD:=Lh (bH x HX.out.toOk c HD.out w6 v6 b r6 e6 bf h6)
   clear h6
   (revert K;refine vg ?_;(repeat with_reducible intro K hK))
   refine fD.out.mono ?_
   rintro e7 w7 ⟨rfl,v7,h7,SO,sP,fU,ZU⟩
   have rH:=Lh (nD.out.s0 fU sP)
   have kY:bf.length≤50000000000000:=by have:=cL.out;have:=Sv.out;simp at *;omega
   have mZ:=Lh (gF x HX.out.toOk c w7 v7 r6 none bf h7 b kY)
   have HN7:=Lh SO
   clear h7 SO sP fU ZU fD kY
   ((repeat revert K);refine vS ?_;(repeat with_reducible intro K hK))
   refine mZ.out.mono ?_
   rintro e8 w8 ⟨rfl,v8,⟨h8,LP,SP⟩,_⟩
   have xL:=Lh (rH.out.trans SP)
   have E6:=Lh h8
   have Fa:=Lh (LP.trans HN7.out)
   clear h8 LP SP mZ
   have vO:(((b0.toNat:Int)==63)=false∧b0≠63)∨(((b0.toNat:Int)==63)=true∧b0=63∧((b.toNat:Int)==62)=false∧b≠62)∨(((b0.toNat:Int)==63)=true∧b0=63∧((b.toNat:Int)==62)=true∧b=62):=by
    by_cases h0:b0=63
    ·subst h0
     by_cases h1:b=62
     ·subst h1;exact Or.inr (Or.inr ⟨rfl,rfl,rfl,rfl⟩)
     ·exact Or.inr (Or.inl ⟨rfl,rfl,eU h1 rfl,h1⟩)
    ·exact Or.inl ⟨eU h0 rfl,h0⟩
   rcases vO with ⟨c0,c0'⟩|⟨c0,c0',c1,c1'⟩|⟨c0,c0',c1,c1'⟩
   case inr.inr=>
    have dJ:1≤bf.length:=LB.out c0'
    subst c1'
    have cB:bf++[62]≠[]:=by simp
    obtain ⟨g,cap,hv,lY,yW,E1,_,_,_⟩:=E6.out.bf.bytes cB
    have sB:=Lh (nS x c w8 v8 r6 none _ E6.out)
    have vC:(bf++[(62:UInt8)]).length=bf.length+1:=by simp
    obtain ⟨d,hd⟩:∃ d,d=bf.take (bf.length-1):=⟨_,rfl⟩
    have LM:d.length=bf.length-1:=by rw [hd,List.length_take];omega
    have a0q:bG w8 g 0 d:=by
     intro j hj
     rw [lY j (by rw [vC];omega),hd]
     simp only [List.getD_eq_getElem?_getD,List.getElem?_take]
     rw [if_pos (by omega),List.getElem?_append_left (by omega)]
    have iC:=Lh (show FC x.o rest=qX x.o tg d r6 by
     rw [dB.out,Fc.out];unfold kJ;rw [if_pos ⟨c0',rfl⟩,hd])
    rw [hv,vC] at sB
    rw [vC] at yW
    have HV:=Lh hv
    have HBY:=Lh a0q
    have hL:bf.length=d.length+1:=by omega
    have Z6:=Lh (show d.length≤1000000000 by have:=cL.out;have:=Sv.out;simp only [List.length_cons] at *;omega)
    rw [hL] at sB yW
    have x9:IntKind.i64.wrap ((d.length:Int)+1+1-2)=(d.length:Int):=by rw [IntKind.wrap_i64];have:=Z6.out;omega
    have MI:IntKind.i64.wrap (d.length:Int)=(d.length:Int):=by rw [IntKind.wrap_i64];have:=Z6.out;omega
    have l0':(0:Int)≤(d.length:Int):=by omega
    have l1:(d.length:Int)≤(cap:Int):=by omega
    have l2:d.length≤cap:=by omega
    have tI:=Lh l2
    have HCM:=Lh E1
    clear cB hv lY a0q vC hd LM hL dJ c0'
    ((repeat revert K);refine vS ?_;(repeat with_reducible intro K hK))
    refine sB.out.mono ?_
    rintro e9 w9 ⟨rfl,kk,rfl⟩
    go_simp
    ((repeat revert K);refine vT 54 ?_)
    (refine cJ [0,8,10] fun f=>?_)
    refine aY (Ss x HX.out Fi.out VD.out c (w8.drewN kk) v8 r6 _ (E6.out.drewN HX.out.toOk kk) Fa.out tg d g cap HBY.out Z6.out tI.out HCM.out _ HV.out _ ?_ f) (by kernel_rfl)
    intro f w' t e hP
    obtain ⟨⟨v',hS',hP'⟩,hO'⟩:=hP
    refine HQ.out f w' t e ⟨⟨v',(xL.out.drawn kk).trans hS',?_⟩,fun k hk=>hO' k (by rw [←iC.out];exact hk)⟩
    rw [iC.out]
    have W4:=(xL.out.drawn kk).mod.size
    cases hr:qX x.o tg d r6 with
    | error k=>rw [hr] at hP';exact hP'
    | ok q=>
     obtain ⟨tk,r9⟩:=q
     rw [hr] at hP'
     obtain ⟨q1,e',b',q2,q3,q4⟩:=hP'
     refine ⟨q1,e',b',q2,?_,q4⟩
     unfold qX at hr
     split at hr
     ·cases hr
     ·simp only [cI,cC] at hr
      obtain ⟨rfl,rfl⟩:=hr
      exact q3
   all_goals
    have HCN:=Lh (show ¬ (b0=63∧b=62) by first|exact fun hh=>c0' hh.1|exact fun hh=>c1' hh.2)
    ((repeat revert K);refine vS ?_;intro K hK)
    (refine Kk [0,8,9] fun f=>?_)
    refine dN.out _ _ ⟨r6.length,by rw [HK.out];simp,HJ.out _ _ _ ⟨f,v8,r6,b,bf++[b],none,rfl,E6.out,xL.out,rfl,?_,fun _=>by simp,?_⟩⟩
    ·rw [Fc.out];conv=>lhs;unfold kJ
     rw [if_neg HCN.out]
    ·have:=cL.out;simp at this ⊢;omega
abbrev rdI (x:Cx):Value:=.iface 44 (.pointer (some ⟨x.rd,0,none⟩))
theorem a3u (a:Addr) (w:World):(Instr.typeAssert (.iface 44 (.pointer (some a))) 69 74 true).run prog w=.ok (.tuple #[.nilIface,.bool false]) w:=
 run_typeAssert_lacksB underlying74 (by kernel_rfl) (by kernel_rfl) _ _ w
theorem a3v (a:Addr) (w:World):(Instr.typeAssert (.iface 44 (.pointer (some a))) 69 172 true).run prog w=.ok (.tuple #[.pointer none,.bool false]) w:=by kernel_rfl
theorem Sw (w:World):∃ arr:Array Value,arr.size=4096∧(Instr.makeSlice 77 (.int .i64 4096) (.int .i64 4096)).run prog w=.ok (.slice (some ⟨w.heap.size,0,none⟩) 4096 4096) (w.alloc (.cells arr 5)):=by
 obtain ⟨i,hi,hz,h1,h2⟩:=info_parts Nc
 have:=run_make w 77 5 i (.int .u8 0) underlying77 hi hz .i64 .i64 4096 4096 (by omega) (by omega) (by rw [h2];omega) (by omega)
 rw [h1] at this
 exact ⟨madeCells #[.int .u8 0] 4096,by simp [size_madeCells],by simpa [Value.cells] using this⟩
def c0 (x:Cx) (mb:Nat):DC:=⟨true,.slice none 0 0,.map none,⟨#[]⟩,.iface 172 (.pointer (some ⟨x.br,0,none⟩)),.pointer none,0,.pointer none,false,⟨#[]⟩,⟨#[]⟩,.nilIface,.map (some mb)⟩
def v0:DV:=⟨.slice none 0 0,0,-1,.nilIface,1,0,0⟩
structure Sx (x:Cx) (w w':World):Prop where
 below:Below w.heap.size w w'
 dec:bO w' x.d (c0 x w.heap.size) v0
 br:aJ w' x.br (jA x 0 0 .nilIface (-1)) 232
 rb:∃ arr:Array Value,arr.size=4096∧aJ w' x.rb arr 5
 map:w'.heap[w.heap.size]?=some (.map #[] 0)
 size:w'.heap.size=w.heap.size+4
theorem MS (x:Cx) (w:World) (h1:x.br=w.heap.size) (h2:x.rb=w.heap.size+1) :
  Calls prog 87 #[rdI x] w fun e w'=>e=.returned (.pointer (some ⟨x.br,0,none⟩))∧Below w.heap.size w w'∧aJ w' x.br (jA x 0 0 .nilIface (-1)) 232∧(∃ arr:Array Value,arr.size=4096∧aJ w' x.rb arr 5)∧w'.heap.size=w.heap.size+2:=by
 have q1:=fun a w=>a3v a w
 obtain ⟨arr,a0r,hmk⟩:=Sw (w.alloc (.cells #[.slice none 0 0,.nilIface,.int .i64 0,.int .i64 0,.nilIface,.int .i64 0,.int .i64 0] 232))
 have HA:=Lh a0r
 have H1:=Lh h1
 have H2:=Lh h2
 clear a0r h1 h2
 have hmx:(max 4096 16:Int)=4096:=by decide
 go_enter func87,ntmps87
 go_wp2
 go_end0
 go_wp2
 go_ret
 have Es:=H1.out
 have KL:=H2.out
 refine ⟨?_,((Below.refl _ w).alloc (Nat.le_refl _) _).alloc (by simp) _,?_,⟨arr,HA.out,?_⟩,by simp⟩
 ·show Ending.returned (.pointer (some ⟨w.heap.size,0,none⟩))=_
  rw [Es]
 ·rw [Es]
  have hb:=(aJ.new w #[.slice (some ⟨w.heap.size+1,0,none⟩) 4096 4096,rdI x,.int .i64 0,.int .i64 0,.nilIface,.int .i64 (-1),.int .i64 (-1)] 232).alloc (.cells arr 5)
  unfold jA
  rw [KL]
  exact hb
 ·rw [KL]
  have hb:=aJ.new (w.alloc (.cells #[.slice (some ⟨w.heap.size+1,0,none⟩) 4096 4096,rdI x,.int .i64 0,.int .i64 0,.nilIface,.int .i64 (-1),.int .i64 (-1)] 232)) arr 5
  simpa using hb
theorem JM (x:Cx) (w:World) (h0:x.d=w.heap.size+1) (h1:x.br=w.heap.size+2) (h2:x.rb=w.heap.size+3) :
  Calls prog 28 #[rdI x] w fun e w'=>e=.returned (bS x)∧Sx x w w':=by
 have q1:=fun a w=>a3u a w
 have hm:=@run_makeMap prog
 have HR:=Lh (fun (w':World) (hb:Below w.heap.size w w') (hs:w'.heap.size=w.heap.size+2)=>MS x w' (by omega) (by omega))
 have H0:=Lh h0
 have H1:=Lh h1
 have H2:=Lh h2
 clear h0 h1 h2
 go_enter func28,ntmps28
 go_wp2_with (first|(go_at_call 55;go_in)|fail)
 have hD0:aJ ((w.alloc (.map #[] 0)).alloc (.cells (rP { c0 x w.heap.size with r:=.nilIface } v0) 87)) (w.heap.size+1) (rP { c0 x w.heap.size with r:=.nilIface } v0) 87:=by
  have:=aJ.new (w.alloc (.map #[] 0)) (rP { c0 x w.heap.size with r:=.nilIface } v0) 87
  simpa using this
 have Ev:((w.alloc (.map #[] 0)).alloc (.cells (rP { c0 x w.heap.size with r:=.nilIface } v0) 87)).heap[w.heap.size]?=some (.map #[] 0):=heap_alloc2_old w _ _
 have OS:Below w.heap.size w ((w.alloc (.map #[] 0)).alloc (.cells (rP { c0 x w.heap.size with r:=.nilIface } v0) 87)):=((Below.refl _ w).alloc (Nat.le_refl _) _).alloc (by simp) _
 have hS0:((w.alloc (.map #[] 0)).alloc (.cells (rP { c0 x w.heap.size with r:=.nilIface } v0) 87)).heap.size=w.heap.size+2:=by simp
 refine (HR.out _ OS hS0).mono ?_
 rintro e1 w1 ⟨rfl,bP,hZ,oZ,gE⟩
 have hD1:aJ w1 (w.heap.size+1) _ _:=aJ.mod (S:=fun _=>False) hD0 (aH bP _) id
 have oJ:=Lh (show w1.heap[w.heap.size]?=some (.map #[] 0) from (bP.block w.heap.size (by rw [hS0];omega)).trans Ev)
 have fV:=Lh (OS.trans (bP.mono (by rw [hS0];omega)))
 have W4:=Lh (show w1.heap.size=w.heap.size+4 by rw [gE,hS0])
 have hc:=hD1.cell
 have hf:=hD1.frozen
 have FG:=Lh hD1
 have K4:=Lh hZ
 have IR:=Lh oZ
 clear hD0 Ev OS hS0 bP hZ oZ gE hD1
 go_wp2
 go_end0
 go_wp2
 go_ret
 have hx0:=H0.out
 refine ⟨?_,?_⟩
 ·show _=Ending.returned (.pointer (some ⟨x.d,0,none⟩))
  rw [hx0]
  rfl
 ·refine ⟨fV.out.setCell (by show w.heap.size≤w.heap.size+1;omega) _,?_,?_,?_,?_,?_⟩
  ·rw [hx0]
   exact (FG.out.set 5 (.iface 172 (.pointer (some ⟨x.br,0,none⟩))))
  ·exact K4.out.set_ne (a:=⟨w.heap.size+1,5,none⟩) (by have:=H1.out;show x.br≠w.heap.size+1;omega) _
  ·obtain ⟨arr,ha,hb⟩:=IR.out
   exact ⟨arr,ha,hb.set_ne (a:=⟨w.heap.size+1,5,none⟩) (by have:=H2.out;show x.rb≠w.heap.size+1;omega) _⟩
  ·rw [dO _ _ _ _ (by show w.heap.size≠w.heap.size+1;omega)];exact oJ.out
  ·have:=W4.out
   simpa [World.setCell] using this
abbrev Sy (raw loose:Bool) (auto:Value) (space:Bs):Value:=.agg #[.bool raw,.bool loose,.slice none 0 0,auto,aB space]
theorem VE (x:Cx) (w:World) (raw loose:Bool) (a:Option Addr) (al ac:Nat) (space:Bs) (h0:x.d=w.heap.size+2) (h1:x.br=w.heap.size+3) (h2:x.rb=w.heap.size+4) :
  Calls prog 11 #[rdI x,Sy raw loose (.slice a al ac) space] w fun e w'=>e=.returned (bS x)∧Below w.heap.size w w'∧bO w' x.d { c0 x (w.heap.size+1) with strict:=!loose,auto:=.slice a al ac,space:=⟨space.toArray⟩ } v0∧aJ w' x.br (jA x 0 0 .nilIface (-1)) 232∧(∃ arr:Array Value,arr.size=4096∧aJ w' x.rb arr 5)∧w'.heap[w.heap.size+1]?=some (.map #[] 0):=by
 have rD:(w.alloc (.cells #[.bool raw,.bool loose,.slice none 0 0,.slice a al ac,aB space] 32)).heap.size=w.heap.size+1:=by simp
 have xJ:=Lh (JM x (w.alloc (.cells #[.bool raw,.bool loose,.slice none 0 0,.slice a al ac,aB space] 32)) (by rw [rD];omega) (by rw [rD];omega) (by rw [rD];omega))
 have HB:=Lh (aJ.new w #[.bool raw,.bool loose,.slice none 0 0,.slice a al ac,aB space] 32)
 have HW0:=Lh rD
 have H0:=Lh h0
 have H1:=Lh h1
 have H2:=Lh h2
 clear h0 h1 h2 rD
 refine eJ 51 func11 [_,_] fun f=>?_
 simp only [aE]
 (refine vg ?_;(repeat with_reducible intro K hK))
 refine xJ.out.mono ?_
 rintro e1 w1 ⟨rfl,hN⟩
 have KQ:aJ w1 w.heap.size _ _:=aJ.mod (S:=fun _=>False) HB.out (aH hN.below _) id
 have u7:=hN.dec.cell
 have KM:=hN.dec.frozen
 have tE:=KQ.cell
 have sZ:=KQ.frozen
 have HN:=Lh hN
 have JN:=Lh KQ
 have cB:x.d≠w.heap.size:=by have:=H0.out;omega
 clear hN KQ xJ
 ((repeat revert K);refine vS ?_;intro K hK)
 (refine cJ [3,5] fun f=>?_)
 go_region_held3 (fun w'=>w'.cell? ⟨w.heap.size,1,none⟩=some (.bool loose)∧w'.cell? ⟨w.heap.size,3,none⟩=some (.slice a al ac)∧w'.cell? ⟨w.heap.size,4,none⟩=some (aB space)) (go_keep) (fail)
 clear u7 KM tE sZ
 have FL:w.heap.size≠x.d:=fun e=>cB e.symm
 obtain ⟨w3,nV⟩:∃ w3,w3=(((w1.setCell ⟨x.d,0,none⟩ (.bool !loose)).setCell ⟨x.d,1,none⟩ (.slice a al ac)).setCell ⟨x.d,4,none⟩ (.string ⟨space.toArray⟩)).drew:=⟨_,rfl⟩
 have l9:aJ w3 w.heap.size #[.bool raw,.bool loose,.slice none 0 0,.slice a al ac,aB space] 32:=by
  rw [nV]
  exact ((((show aJ w1 w.heap.size _ _ from JN.out).set_ne (a:=⟨x.d,0,none⟩) FL (.bool !loose)).set_ne (a:=⟨x.d,1,none⟩) FL (.slice a al ac)).set_ne (a:=⟨x.d,4,none⟩) FL (.string ⟨space.toArray⟩)).drew
 have PG:bO w3 x.d { c0 x (w.heap.size+1) with strict:=!loose,auto:=.slice a al ac,space:=⟨space.toArray⟩ } v0:=by
  rw [nV]
  have h9:=((((show aJ w1 x.d _ _ from HN.out.dec).set 0 (.bool !loose)).set 1 (.slice a al ac)).set 4 (.string ⟨space.toArray⟩))
  rw [HW0.out] at h9
  exact h9.drew
 have QJ:Below w.heap.size w w3:=by
  rw [nV]
  have hd:=H0.out
  refine Below.drew ?_
  refine Below.setCell ?_ (by show w.heap.size≤x.d;omega) _
  refine Below.setCell ?_ (by show w.heap.size≤x.d;omega) _
  refine Below.setCell ?_ (by show w.heap.size≤x.d;omega) _
  exact ((Below.refl _ w).alloc (Nat.le_refl _) _).trans (HN.out.below.mono (by simp))
 have K7:aJ w3 x.br (jA x 0 0 .nilIface (-1)) 232:=by
  rw [nV]
  have hn:x.br≠x.d:=by have:=H0.out;have:=H1.out;omega
  exact (((HN.out.br.set_ne (a:=⟨x.d,0,none⟩) hn (.bool !loose)).set_ne (a:=⟨x.d,1,none⟩) hn (.slice a al ac)).set_ne (a:=⟨x.d,4,none⟩) hn (.string ⟨space.toArray⟩)).drew
 have a0s:∃ arr:Array Value,arr.size=4096∧aJ w3 x.rb arr 5:=by
  rw [nV]
  obtain ⟨arr,ha,hb⟩:=HN.out.rb
  have hn:x.rb≠x.d:=by have:=H0.out;have:=H2.out;omega
  exact ⟨arr,ha,(((hb.set_ne (a:=⟨x.d,0,none⟩) hn (.bool !loose)).set_ne (a:=⟨x.d,1,none⟩) hn (.slice a al ac)).set_ne (a:=⟨x.d,4,none⟩) hn (.string ⟨space.toArray⟩)).drew⟩
 have cD:w3.heap[w.heap.size+1]?=some (.map #[] 0):=by
  rw [nV]
  have hm:=HN.out.map
  rw [HW0.out] at hm
  have hn:w.heap.size+1≠x.d:=by have:=H0.out;omega
  show (((w1.setCell ⟨x.d,0,none⟩ (.bool !loose)).setCell ⟨x.d,1,none⟩ (.slice a al ac)).setCell ⟨x.d,4,none⟩ (.string ⟨space.toArray⟩)).heap[w.heap.size+1]?=_
  rw [dO _ _ _ _ hn,dO _ _ _ _ hn,dO _ _ _ _ hn]
  exact hm
 rw [←nV]
 clear nV
 have hc3:=l9.cell
 have hf3:=l9.frozen
 have Zn:=Lh PG
 have Rz:=Lh QJ
 have K4:=Lh K7
 have IR:=Lh a0s
 have HM:=Lh cD
 clear l9 PG QJ K7 a0s cD
 (revert K;refine vg ?_;intro K hK)
 refine wp_loop_once ?_
 (revert K;refine vg ?_)
 (refine cW ?_)
 exact ⟨rfl,Rz.out,Zn.out,K4.out,IR.out,HM.out⟩
structure Env (w:World):Prop where
 eof:∃ a:Addr,w.cell? ⟨0,0,none⟩=some (pD a)∧a.block<w.heap.size
 gB:0<w.heap.size
 u8:Lib.Utf8Tabs 6 7 w
 num:pM w
 numS:8<w.heap.size
 numR:9<w.heap.size
theorem Env.below {w w':World} (h:Env w) (hb:Below w.heap.size w w'):Env w':=by
 obtain ⟨a,ha,hl⟩:=h.eof
 exact ⟨⟨a,by rw [hb.cell (p:=⟨_,0,none⟩) h.gB];exact ha,Nat.lt_of_lt_of_le hl hb.size⟩,Nat.lt_of_lt_of_le h.gB hb.size,Utf8Tabs_below h.u8 hb,h.num.below h.numS h.numR hb,Nat.lt_of_lt_of_le h.numS hb.size,Nat.lt_of_lt_of_le h.numR hb.size⟩
structure MT (w:World) (pcA:Option Addr) (pcN pcC:Nat) (pcs:List Int):Prop where
 n:pcN≤9223372036854775807
 l:pcN≤pcC
 at':0<pcN→∃ pb po:Nat,pcA=some ⟨pb,po,none⟩∧pb<w.heap.size∧∀ j,j<pcN→w.cell? ⟨pb,po+j,none⟩=some (.int .i64 (pcs.getD j 0))
def Iw (w:World) (T:Bs) (o:cU) (eofA:Addr) (pcA:Option Addr) (pcN pcC:Nat) (pcs:List Int):Cx:=⟨w,T,o,w.heap.size+4,w.heap.size+5,w.heap.size+6,w.heap.size+1,eofA,pcA,pcN,pcC,pcs⟩
theorem Z7 {w:World} (hE:Env w) {T:Bs} (hT:T.length≤1000000000) (o:cU) {eofA:Addr} (he:w.cell? ⟨0,0,none⟩=some (pD eofA)) (hl:eofA.block<w.heap.size) {pcA:Option Addr} {pcN pcC:Nat} {pcs:List Int} (hp:MT w pcA pcN pcC pcs):(Iw w T o eofA pcA pcN pcC pcs).All:=by
 refine ⟨⟨⟨hT,?_,?_,?_,?_,?_,?_,?_,?_,?_,?_,he,hl,hE.gB,hp.n,hp.l,hp.at'⟩,hE.u8⟩,hE.num,hE.numS,hE.numR⟩
 all_goals (simp only [Iw,Cx.B];omega)
theorem a3w {w w1:World} {T:Bs} (hT:T.length≤1000000000) {o:cU} {eofA:Addr} {pcA:Option Addr} {pcN pcC:Nat} {pcs:List Int} {c:DC} (x:Cx) (hx:x=Iw w T o eofA pcA pcN pcC pcs) (hb:Below w.heap.size w w1) (hd:bO w1 x.d c v0)
  (hZ:aJ w1 x.br (jA x 0 0 .nilIface (-1)) 232) (oZ:∃ arr:Array Value,arr.size=4096∧aJ w1 x.rb arr 5) (iH:aJ w1 x.rd (AP x ⟨T.toArray⟩ 0) 46):bX x c w1 v0 T none []:=by
 obtain ⟨arr,ha,hr⟩:=oZ
 have hs:(⟨T.toArray⟩:ByteArray).size=T.length:=rfl
 refine ⟨by rw [hx];exact hb,hd,⟨T,⟨0,0,0,-1,arr,⟨T.toArray⟩,[],hZ,hr,ha,iH,Nat.le_refl _,by omega,rfl,fun j hj=>absurd hj (by simp),by simp,by rw [hs];omega⟩,Or.inl ⟨rfl,rfl⟩⟩,⟨[],by rw [hx];rfl,rfl,rfl,fun _=>rfl,fun hh=>absurd hh (by decide)⟩,rfl,Or.inl rfl,Or.inl ⟨rfl,rfl⟩⟩
theorem pI.col {x:Cx} {v:DV} {rest:Bs} (hx:x.Ok) (h:pI x v rest) (hn:v.nb≠10):-1000000000000≤v.off-v.lstart∧v.off-v.lstart≤1000000000000:=by
 obtain ⟨pre,hT,ho,_,hs,_⟩:=h
 have h1:=hs hn
 have h2:=X1 pre
 have h3:pre.length≤x.T.length:=by rw [hT];simp
 have h4:=hx.len
 omega
theorem nL.part {x:Cx} {w:World} {v:Value} {b d:Bs} {g cap:Nat} (h:nL x w v b) (hv:v=.slice (some ⟨g,0,none⟩) b.length cap) (hd:d=b.take d.length) (hl:d.length≤b.length):bG w g 0 d∧g<w.heap.size:=by
 rcases h with ⟨h1,_⟩|⟨g',cap',arr,h1,hg,_,_,_,_,_,oB⟩
 ·rw [h1] at hv;cases hv
 ·rw [h1] at hv
  simp only [Value.slice.injEq,oY,Addr.mk.injEq] at hv
  obtain ⟨⟨rfl,_⟩,_⟩:=hv
  refine ⟨fun j hj=>?_,hg.lt⟩
  rw [Nat.zero_add,hg.cell,oB j (by omega)]
  have:d.getD j 0=b.getD j 0:=by
   rw [hd]
   simp only [List.getD_eq_getElem?_getD,List.getElem?_take]
   rw [if_pos hj]
  rw [this]
theorem Ix:(prog.info? 55).map (fun i=>(i.zero,i.size,i.bytes))=some (some (a3n 0 [] [] (.slice none 0 0) [] 0 0 0),8,104):=by kernel_rfl
theorem gQ {P:Program} {ops:Array Oper} {rest:List Oper} {o:Oper} {a:Act} {w w':World} {Q:Exit→Act→World→Prop} (hg:o.guard=none) (s x:Operand) (t u:TypeId) (ho:o.op=.call { callee:=.builtin .append,args:=#[s,x],argTypes:=#[t,u] }) (vs vx v':Value)
  (hs:a.eval s=vs) (hx:a.eval x=vx) (gA:(Builtin.append_ #[t,u] o.type #[vs,vx]).run P w=.ok v' w') (h:wpList P ops Q rest (a.put o.dst v') w'):wpList P ops Q (o::rest) a w:=by
 refine wpList_plain hg fun K hK=>?_
 have h2:=hK _ _ h
 unfold Oper.wp
 simp only [execOp,ho,resolve,invoke,builtin]
 simp [hs,hx,gA,Result.andThen]
 exact h2
def nA (kind:Int) (space loc:Bs) (attrs:Value) (text:Bs) (a l c:Int):List Value:=[.int .i64 kind,aB space,aB loc,attrs,aB text,.int .i64 a,.int .i64 l,.int .i64 c]
theorem yC {P:Program} {ops:Array Oper} {d:Bool} {Q:Exit→Act→World→Prop} {a:Act} {w:World} (n:Nat) (h:(Code.region n ops d).wp P Q a w):(Code.region n ops d).wp P Q a w:=h
theorem aG {w w':World} {base:Nat} {e:TypeId} {size:Nat} {v:Value} {n:Nat} {xs:List Value} {S:Nat→Prop} (h:w.ownsRow base e size v n xs) (hm:aK S w w') (hS:∀ g,v.ownBlock=some g→¬ S g):w'.ownsRow base e size v n xs:=by
 obtain ⟨h1,h2⟩:=h
 refine ⟨h1,?_⟩
 rcases h2 with h2|⟨g,cap,cur,rfl,hb,hc,h3⟩
 ·exact Or.inl h2
 ·exact Or.inr ⟨g,cap,cur,rfl,hb,(show aJ w g cur e from hc).mod hm (hS g rfl),h3⟩
theorem Sz:(prog.info? 99).map (fun i=>(i.zero,i.size,i.bytes))=some (some (.agg #[.string ⟨#[]⟩,.string ⟨#[]⟩,.string ⟨#[]⟩]),3,48):=by kernel_rfl
theorem VF (w3:World) (base:Nat) (hb:base≤w3.heap.size) (v:Value) (acc:List eI) (hn:acc.length≤1000000000) (h:w3.ownsRow base 99 3 v acc.length (aN acc)) (a:eI) :
  ∃ v' w4,(Builtin.append_ #[95,95] 95 #[v,.slice (some ⟨w3.heap.size,0,none⟩) 1 1]).run prog (w3.alloc (.cells #[aB a.1,aB a.2.1,aB a.2.2] 99))=.ok v' w4 ∧
   w4.ownsRow base 99 3 v' (acc++[a]).length (aN (acc++[a]))∧(w3.alloc (.cells #[aB a.1,aB a.2.1,aB a.2.2] 99)).grownBy w4 v.ownBlock∧v'≠.slice none 0 0∧(v'.ownBlock=v.ownBlock∨v'.ownBlock=some (w3.heap.size+1)):=by
 obtain ⟨i,hi,hz,h1,h2⟩:=info_parts Sz
 obtain ⟨v',w4,hr,ho,hg,Ta,eC⟩:=run_append_own_at (P:=prog) (w3.alloc (.cells #[aB a.1,aB a.2.1,aB a.2.2] 99)) base 95 95 99 i _ 3 48 underlying95 hi hz h1 h2 rfl (by omega) v acc.length (aN acc) (h.alloc _) ⟨w3.heap.size,0,none⟩ 1 1 [aB a.1,aB a.2.1,aB a.2.2] rfl
  (by
   intro j u hj
   have hb:=aJ.new w3 #[aB a.1,aB a.2.1,aB a.2.2] 99
   rw [show ((⟨w3.heap.size,0,none⟩:Addr).add j)=⟨w3.heap.size,j,none⟩ by cases j<;>simp [Addr.add],hb.cell]
   simpa using hj)
  (by
   intro u hu
   simp only [List.mem_cons,List.not_mem_nil,or_false] at hu
   rcases hu with rfl|rfl|rfl<;>rfl)
  (by unfold maxLen;omega) (by omega) (by simp;omega)
 refine ⟨v',w4,hr,?_,hg,fun hh=>by have:=(Ta.1 hh).2;omega,by simpa using eC⟩
 have e1:aN (acc++[a])=aN acc++[aB a.1,aB a.2.1,aB a.2.2]:=by simp [aN]
 rw [e1,List.length_append]
 exact ho
structure tA (x:Cx) (w0:World) (w:World) (v:DV) (nb:Nat) (nm:Bs×Bs) (av:Value) (acc:List eI):Prop where
 name:aJ w nb #[aB nm.1,aB nm.2] 85
 nbS:¬ x.S1 v nb
 nbB:w0.heap.size≤nb
 row:w.ownsRow w0.heap.size 99 3 av acc.length (aN acc)
 rowS:∀ g,av.ownBlock=some g→¬ x.S1 v g∧g≠nb
 ne:av≠.slice none 0 0
theorem aV {w:World} {base:Nat} {e:TypeId} {size:Nat} {v:Value} {n:Nat} {xs:List Value} (h:w.ownsRow base e size v n xs) {g:Nat} (hg:v.ownBlock=some g):g<w.heap.size∧base≤g:=by
 obtain ⟨_,h2⟩:=h
 rcases h2 with ⟨rfl,_⟩|⟨g',cap,cur,rfl,hb,hc,_⟩
 ·cases hg
 ·have:g'=g:=by simpa [Value.ownBlock] using hg
  subst this
  exact ⟨aJ.lt (w:=w) (b:=g') (cs:=cur) (t:=e) hc,hb⟩
theorem tA.step {x:Cx} {w0 w w':World} {v v':DV} {nb:Nat} {nm:Bs×Bs} {av:Value} {acc:List eI} (h:tA x w0 w v nb nm av acc) (hs:cK x w v w' v'):tA x w0 w' v' nb nm av acc:=
 ⟨h.name.mod hs.mod h.nbS,hs.notS1 h.nbS h.name.lt,h.nbB,aG h.row hs.mod (fun g hg=>(h.rowS g hg).1),fun g hg=>⟨hs.notS1 (h.rowS g hg).1 (aV h.row hg).1,(h.rowS g hg).2⟩,h.ne⟩
theorem tA.other {x:Cx} {w0 w w':World} {v:DV} {nb:Nat} {nm:Bs×Bs} {av:Value} {acc:List eI} (h:tA x w0 w v nb nm av acc) {q:Nat} (hm:aK (fun k=>k=q) w w') (h1:nb≠q) (h2:av.ownBlock≠some q):tA x w0 w' v nb nm av acc:=
 ⟨h.name.mod hm h1,h.nbS,h.nbB,aG h.row hm (fun g hg he=>h2 (he▸hg)),h.rowS,h.ne⟩
theorem tA.below {x:Cx} {w0 w w':World} {v:DV} {nb:Nat} {nm:Bs×Bs} {av:Value} {acc:List eI} (h:tA x w0 w v nb nm av acc) (hb:Below w.heap.size w w'):tA x w0 w' v nb nm av acc:=
 ⟨h.name.mod (S:=fun _=>False) (aH hb _) id,h.nbS,h.nbB,aG (S:=fun _=>False) h.row (aH hb _) (fun _ _=>id),h.rowS,h.ne⟩
theorem MU (x:Cx) (hx:x.All) (c:DC) (w0:World) (w:World) (v:DV) (rest:Bs) (e:Option EK) (buf:Bs) (h:bX x c w v rest e buf) (rD:w0.heap.size≤w.heap.size) (OS:x.B≤w0.heap.size) (nb:Nat) (nm:Bs×Bs) (av:Value) (acc:List eI) (hk:tA x w0 w v nb nm av acc) (hn:acc.length≤1000000000)
  (ab:Nat) (a:eI) (ha:aJ w ab #[aB a.1,aB a.2.1,aB a.2.2] 99) (p28 v29:Value) (Q:Exit→Act→World→Prop)
  (hQ:∀ f w' av',bX x c w' v rest e buf→aK (fun k=>w0.heap.size≤k) w w'→tA x w0 w' v nb nm av' (acc++[a])→Q .normal (fr 731 f [(0,bS x),(28,p28),(29,v29),(30,av')]) w') (f:Nat→Value) :
  (dM 197).wp prog Q (fr 731 f [(0,bS x),(28,p28),(29,v29),(30,av),(31,.pointer (some ⟨ab,0,none⟩))]) w:=by
 obtain ⟨av',w4,gA,eC,xI,cB,rK⟩:=VF w w0.heap.size rD av acc hn hk.row a
 have wG:=ha.cell
 have FJ:=ha.frozen
 have HQ:=Lh hQ
 have HK:=Lh hk
 have H:=Lh h
 have HG:=Lh xI
 have HO:=Lh eC
 have HX:=Lh hx
 clear hQ hk h xI eC ha hx
 unfold dM
 conv=>arg 2;whnf
 refine vB ?_
 refine gQ rfl (.tmp 715) (.tmp 717) _ _ rfl _ _ _ (by rw [dZ (by decide)];(try simp only [aL,aQ,aS,bD,Nat.reduceEqDiff,↓reduceIte]);(try rfl)) (by rw [dZ (by decide)];(try simp only [aL,aQ,aS,bD,Nat.reduceEqDiff,↓reduceIte]);(try rfl)) gA ?_
 clear gA
 rw [mC (by decide)]
 refine vg ?_
 refine Qk [0,28,29,30] fun f=>?_
 have iE:aK (fun _=>False) w (w.alloc (.cells #[aB a.1,aB a.2.1,aB a.2.2] 99)):=aH ((Below.refl _ w).alloc (Nat.le_refl _) _) _
 have hm:aK (fun k=>av.ownBlock=some k) w w4:=(iE.mono (fun _ _ h=>h.elim)).trans (S':=fun k=>av.ownBlock=some k) ⟨HG.out.os,HG.out.tape,HG.out.output,HG.out.size,fun k hk hn=>HG.out.block k hk (fun he=>hn he.symm)⟩ (fun i _ hi=>hi)
 have Iy:∀ k,av.ownBlock=some k→w0.heap.size≤k:=fun k hk=>(aV HK.out.row hk).2
 refine HQ.out f w4 av' (H.out.mod hm (fun k hk he=>(HK.out.rowS k he).1 hk) (fun k hk=>Nat.le_trans OS (Iy k hk))) (hm.mono (fun k _ hk=>Iy k hk)) ⟨HK.out.name.mod hm (fun he=>(HK.out.rowS nb he).2 rfl),HK.out.nbS,HK.out.nbB,HO.out,fun g hg=>?_,cB⟩
 rcases rK with rK|rK
 ·exact HK.out.rowS g (rK▸hg)
 ·rw [rK] at hg
  have hg':w.heap.size+1=g:=by simpa using hg
  exact ⟨fun hk=>by have:=H.out.s1lt g hk;omega,by have:=HK.out.name.lt;omega⟩
theorem cK.fresh {x:Cx} {w0 w1 w2:World} {v0 v1:DV} (h:cK x w0 v0 w1 v1) (hm:aK (fun k=>w0.heap.size≤k) w1 w2):cK x w0 v0 w2 v1:=
 ⟨h.mod.trans hm (fun i hi hs=>by omega),h.buf⟩
structure SR (x:Cx) (w0:World) (w:World) (v:DV) (nb:Nat) (av:Value) (ab:Nat) (cs:Array Value):Prop where
 blk:aJ w ab cs 99
 S:¬ x.S1 v ab
 B:w0.heap.size≤ab
 n:nb≠ab
 r:av.ownBlock≠some ab
theorem SR.step {x:Cx} {w0 w w':World} {v v':DV} {nb:Nat} {av:Value} {ab:Nat} {cs:Array Value} (h:SR x w0 w v nb av ab cs) (hs:cK x w v w' v'):SR x w0 w' v' nb av ab cs:=
 ⟨h.blk.mod hs.mod h.S,hs.notS1 h.S h.blk.lt,h.B,h.n,h.r⟩
structure zY (x:Cx) (c:DC) (w0:World) (v0:DV) (w:World) (v:DV) (rest:Bs) (e:Option EK) (nb:Nat) (nm:Bs×Bs) (av:Value) (acc:List eI) (ab:Nat) (cs:Array Value):Prop where
 rd:∃ b,bX x c w v rest e b
 nn:cO v
 stp:cK x w0 v0 w v
 keep:tA x w0 w v nb nm av acc
 cell:SR x w0 w v nb av ab cs
theorem zY.step {x:Cx} {c:DC} {w0:World} {v0:DV} {w:World} {v:DV} {rest:Bs} {e:Option EK} {nb:Nat} {nm:Bs×Bs} {av:Value} {acc:List eI} {ab:Nat} {cs:Array Value} (h:zY x c w0 v0 w v rest e nb nm av acc ab cs) {w':World} {v':DV} {rest':Bs} {e':Option EK} (hs:cK x w v w' v') (hr:∃ b,bX x c w' v' rest' e' b) (hn:cO v'):zY x c w0 v0 w' v' rest' e' nb nm av acc ab cs:=
 ⟨hr,hn,h.stp.trans hs,h.keep.step hs,h.cell.step hs⟩
theorem zY.set {x:Cx} {c:DC} {w0:World} {v0:DV} {w:World} {v:DV} {rest:Bs} {e:Option EK} {nb:Nat} {nm:Bs×Bs} {av:Value} {acc:List eI} {ab:Nat} {cs:Array Value} (h:zY x c w0 v0 w v rest e nb nm av acc ab cs) (OS:x.B≤w0.heap.size) (o:Nat) (u:Value):zY x c w0 v0 (w.setCell ⟨ab,o,none⟩ u) v rest e nb nm av acc ab (cs.setIfInBounds o u):=by
 have hm:aK (fun k=>k=ab) w (w.setCell ⟨ab,o,none⟩ u):=(aK.refl (fun k=>k=ab) w).setCell (p:=⟨ab,o,none⟩) (Or.inl rfl) u
 obtain ⟨b,hb⟩:=h.rd
 exact ⟨⟨b,hb.mod hm (fun k hk he=>h.cell.S (he▸hk)) (fun k hk=>hk▸Nat.le_trans OS h.cell.B)⟩,h.nn,h.stp.fresh (hm.mono (fun k _ hk=>hk▸h.cell.B)),h.keep.other hm h.cell.n h.cell.r,⟨h.cell.blk.set o u,h.cell.S,h.cell.B,h.cell.n,h.cell.r⟩⟩
def hC (o:cU) (nm:Bs×Bs) (r:Bs):Except EK (eI×Bs):=
 match aM r with
 | []=>.error (bW o.fails)
 | b::r4=>
  if b=61 then
   match dX o (aM r4) with
   | .error e=>.error e
   | .ok (v,r5)=>.ok ((nm.1,nm.2,v),r5)
  else if o.strict then .error .syn else .ok ((nm.1,nm.2,nm.2),b::r4)
theorem QL (o:cU) (r:Bs):gY o r=match cE o.fails r with
 | .error e=>.error e
 | .ok (nm,r2)=>hC o nm r2:=by
 unfold gY hC
 rfl
theorem Iz (x:Cx) (hx:x.All) (c:DC) (dR:iU x c) (jL:wL x c) (w0:World) (v0:DV) (w:World) (v:DV) (rest:Bs) (OS:x.B≤w0.heap.size) (nb:Nat) (nm:Bs×Bs) (av:Value) (acc:List eI) (hn:acc.length≤1000000000) (ab:Nat) (an:Bs×Bs)
  (h:zY x c w0 v0 w v rest none nb nm av acc ab #[aB an.1,aB an.2,aB []]) (p28 v29:Value) (Q:Exit→Act→World→Prop)
  (pB:∀ a r5,hC x.o an rest=.ok (a,r5)→∀ f w' v' e' b' av',bX x c w' v' r5 e' b'→cO v'→cK x w0 v0 w' v'→tA x w0 w' v' nb nm av' (acc++[a])→Q .normal (fr 731 f [(0,bS x),(28,p28),(29,v29),(30,av')]) w')
  (gO:∀ k,hC x.o an rest=.error k→∀ f w' v',jP x c w' v' k→cK x w0 v0 w' v'→Q .ret (fr 731 f [(2,.nilIface),(3,v'.err)]) w') (f:Nat→Value) :
  (dM 182).wp prog Q (fr 731 f [(0,bS x),(28,p28),(29,v29),(30,av),(31,.pointer (some ⟨ab,0,none⟩))]) w:=by
 have HX:=Lh hx
 have HD:=Lh dR
 have xP:=Lh jL
 have DL:=Lh pB
 have zT:=Lh gO
 obtain ⟨b0,iH⟩:=h.rd
 have fY:=Lh (xY x hx.toOk c dR w v rest none b0 iH)
 have HA:=Lh h
 have LB:=Lh OS
 have HN:=Lh hn
 clear hx dR jL pB gO h iH OS hn
 unfold dM
 conv=>arg 2;whnf
 (refine vg ?_;(repeat with_reducible intro K hK))
 refine fY.out.mono ?_
 rintro e1 w1 ⟨rfl,v1,e1',hP⟩
 have Ja:=Lh (HA.out.step (hP.mod.stp hP.bufv) ⟨b0,hP.rd⟩ (HA.out.nn.of_eq hP.bufv))
 have R3:=Lh hP.rd
 clear hP fY HA
 cases hw:aM rest with
 | nil=>
  have BW:=Lh (show hC x.o an rest=.error (bW x.o.fails) by unfold hC;rw [hw])
  have fD:=Lh (bJ x HX.out.toOk c HD.out w1 v1 _ b0 (by have:=R3.out;rw [hw] at this;exact this))
  clear hw
  ((repeat revert K);refine vS ?_;(repeat with_reducible intro K hK))
  refine fD.out.mono ?_
  rintro e2 w2 ⟨rfl,v2,hE,dJ,iA⟩
  have gH:=Lh (Ja.out.stp.s0 iA dJ)
  obtain ⟨t1,u1,oQ⟩:=hE.err.iface
  have HE:=Lh hE
  have hc:=hE.dec.cell
  have hf:=hE.dec.frozen
  have HU:=Lh oQ
  clear hE iA dJ fD
  ((repeat revert K);refine vS ?_;(repeat with_reducible intro K hK))
  ((refine cJ [0] fun f=>?_);go_quiet (fail);((repeat revert K);refine vg ?_;intro K hK);refine Qk [2,3] fun f=>?_)
  rw [←HU.out]
  exact zT.out _ BW.out f _ v2 (HE.out.drewN _) (gH.out.drawn _)
 | cons b r4=>
  have fD:=Lh (bH x HX.out.toOk c HD.out w1 v1 b r4 _ b0 (by have:=R3.out;rw [hw] at this;exact this))
  have kC:=Lh (show (b::r4) <:+ x.T by have:=R3.out.suf;rw [hw] at this;exact this)
  have Xz:=Lh (show hC x.o an rest=(if b=61 then
   match dX x.o (aM r4) with
   | .error e=>.error e
   | .ok (v,r5)=>.ok ((an.1,an.2,v),r5)
  else if x.o.strict then .error .syn else .ok ((an.1,an.2,an.2),b::r4)) by unfold hC;rw [hw])
  clear hw
  ((repeat revert K);refine vS ?_;(repeat with_reducible intro K hK))
  refine fD.out.mono ?_
  rintro e2 w2 ⟨rfl,v2,h2,gK,dJ,iA,KN⟩
  have W5:=Lh (Ja.out.step (iA.stp dJ) ⟨b0,h2⟩ (Ja.out.nn.of_eq dJ))
  have fB:=Lh h2
  have mH:=Lh gK
  clear h2 gK dJ iA KN fD Ja R3
  by_cases hb:b=61
  ·subst hb
   have fY:=Lh (xY x HX.out.toOk c HD.out w2 v2 r4 none b0 fB.out)
   ((repeat revert K);refine vS ?_;(repeat with_reducible intro K hK))
   refine fY.out.mono ?_
   rintro e3 w3 ⟨rfl,v3,e3',hP⟩
   have Oe:=Lh (W5.out.step (hP.mod.stp hP.bufv) ⟨b0,hP.rd⟩ (W5.out.nn.of_eq hP.bufv))
   have Fg:=Lh (U6 x HX.out c HD.out xP.out w3 v3 (aM r4) e3' b0 hP.rd (W5.out.nn.of_eq hP.bufv))
   clear hP fY W5 fB mH
   ((repeat revert K);refine vS ?_;(repeat with_reducible intro K hK))
   refine Fg.out.mono ?_
   rintro e4 w4 ⟨v4,YH,tJ⟩
   have nM:=Lh YH
   clear YH Fg
   cases bR:dX x.o (aM r4) with
   | error k=>
    rw [bR] at tJ
    obtain ⟨rfl,hE⟩:=tJ
    have BW:=Lh (show hC x.o an rest=.error k by rw [Xz.out,if_pos rfl,bR])
    obtain ⟨t1,u1,oQ⟩:=hE.err.iface
    have hc:=hE.dec.cell
    have hf:=hE.dec.frozen
    have HE:=Lh hE
    have HU:=Lh oQ
    clear hE bR
    have q1:=fun w=>ZP w
    ((repeat revert K);refine vS ?_;(repeat with_reducible intro K hK))
    ((refine cJ [0] fun f=>?_);go_quiet (fail);((repeat revert K);refine vg ?_;(repeat with_reducible intro K hK));refine Qk [2,3] fun f=>?_)
    rw [←HU.out]
    exact zT.out _ BW.out f _ v4 (HE.out.drewN _) ((Oe.out.stp.trans nM.out).drawn _)
   | ok dr=>
    obtain ⟨d,r'⟩:=dr
    rw [bR] at tJ
    obtain ⟨g,cap,e',b',rfl,hR,rF,nR,FI,_⟩:=tJ
    have BW:=Lh (show hC x.o an rest=.ok ((an.1,an.2,d),r') by rw [Xz.out,if_pos rfl,bR])
    have lY:=(hR.bf.part rF nR FI).1
    have EZ:=zF d w4 g 0 cap lY
    have nC:=Lh (show cO v4 from ⟨g,by rw [rF];rfl⟩)
    have HA4:=Lh (Oe.out.step nM.out ⟨b',hR⟩ nC.out)
    have wG:=HA4.out.cell.blk.cell
    have FJ:=HA4.out.cell.blk.frozen
    have HR:=Lh hR
    clear hR rF nR bR lY
    have q1:=fun a l c w=>QD a l c w
    have JO:=Lh (HA4.out.set LB.out 2 (aB d))
    go_simp
    (repeat ((fail_if_success with_reducible refine yC 197 ?_);(first|(with_reducible first|refine zA fun K hK=>?_|refine zB ?_|refine zC ?_)|((with_reducible first|refine zD rfl fun K hK=>?_|refine zE fun K hK=>?_);go_simp)|(with_reducible first|((repeat ((fail_if_success refine hK _ _ ?_);clear hK K));refine hK _ _ ?_;clear hK K)|refine zt ?_|refine zf ?_|refine zG ?_|refine zR ?_|refine zK ?_|refine zL ?_|refine zN ?_|refine zS ?_)|simp only [Exit.then,Exit.inBlock,Exit.noGoto,↓reduceIte,Nat.reduceEqDiff]|simp only [undef,reduceCtorEq,↓reduceIte])))
    (refine cJ [0,28,29,30,31] fun f=>?_)
    have W6:Hid (zY x c w0 v0 (w4.setCell ⟨ab,2,none⟩ (aB d)) v4 r' e' nb nm av acc ab #[aB an.1,aB an.2,aB d]):=JO.out
    obtain ⟨b6,hr6⟩:=W6.out.rd
    refine aY (MU x HX.out c w0 _ v4 r' e' b6 hr6 (W6.out.stp.mod.size) LB.out nb nm av acc W6.out.keep HN.out ab (an.1,an.2,d) W6.out.cell.blk p28 v29 _ ?_ f) (by kernel_rfl)
    intro f w' av' hr hm hk
    have HH:=Lh hr
    have HK:=Lh hk
    have HS:=Lh (W6.out.stp.fresh hm)
    clear hr hm hk hr6 wG FJ q1 EZ
    refine vg ?_
    exact DL.out _ _ BW.out f w' v4 e' b6 av' HH.out nC.out HS.out HK.out
  ·have vG:=eU (n:=61) hb rfl
   have QF:=uF (n:=61) hb rfl
   have hc:=fB.out.dec.cell
   have hf:=fB.out.dec.frozen
   cases dA:c.strict with
   | true=>
    have BW:=Lh (show hC x.o an rest=.error .syn by rw [Xz.out,if_neg hb,if_pos (by rw [←HD.out.strict];exact dA)])
    have qS:=Lh (fun msg=>g7 HX.out.toOk fB.out msg)
    clear hb
    ((repeat revert K);refine vS ?_;(repeat with_reducible intro K hK))
    refine (qS.out _).mono ?_
    rintro e5 w5 ⟨a9,rfl,hS⟩
    have tE:=hS.dec.cell
    have sZ:=hS.dec.frozen
    have HS:=Lh hS
    clear hS hc hf
    ((repeat revert K);refine vS ?_;(repeat with_reducible intro K hK))
    ((refine cJ [0] fun f=>?_);go_quiet (fail);((repeat revert K);refine vg ?_;(repeat with_reducible intro K hK));refine Qk [2,3] fun f=>?_)
    exact zT.out _ BW.out f _ { v2 with err:=BR a9 } (HS.out.err.drewN _) ((W5.out.stp.trans HS.out.stp).drawn _)
   | false=>
    have BW:=Lh (show hC x.o an rest=.ok ((an.1,an.2,an.2),b::r4) by rw [Xz.out,if_neg hb,if_neg (by rw [←HD.out.strict,dA];simp)])
    have iW:=Lh (gZ x HX.out.toOk c w2 v2 b r4 b0 fB.out mH.out kC.out)
    clear hb
    ((repeat revert K);refine vS ?_;(repeat with_reducible intro K hK))
    refine iW.out.mono ?_
    rintro e3 w3 ⟨rfl,v3,h3,O8,l9,cD,Nb⟩
    have Oe:=Lh (W5.out.step (cD.stp l9) ⟨b0,h3⟩ (W5.out.nn.of_eq l9))
    have wG:=Oe.out.cell.blk.cell
    have FJ:=Oe.out.cell.blk.frozen
    clear h3 O8 l9 cD Nb iW hc hf dA
    have JO:=Lh (Oe.out.set LB.out 2 (aB an.2))
    go_simp
    (repeat ((fail_if_success with_reducible refine yC 197 ?_);(first|(with_reducible first|refine zA fun K hK=>?_|refine zB ?_|refine zC ?_)|((with_reducible first|refine zD rfl fun K hK=>?_|refine zE fun K hK=>?_);go_simp)|(with_reducible first|((repeat ((fail_if_success refine hK _ _ ?_);clear hK K));refine hK _ _ ?_;clear hK K)|refine zt ?_|refine zf ?_|refine zG ?_|refine zR ?_|refine zK ?_|refine zL ?_|refine zN ?_|refine zS ?_)|simp only [Exit.then,Exit.inBlock,Exit.noGoto,↓reduceIte,Nat.reduceEqDiff]|simp only [undef,reduceCtorEq,↓reduceIte])))
    (refine cJ [0,28,29,30,31] fun f=>?_)
    have W6:Hid (zY x c w0 v0 (w3.setCell ⟨ab,2,none⟩ (aB an.2)) v3 (b::r4) none nb nm av acc ab #[aB an.1,aB an.2,aB an.2]):=JO.out
    obtain ⟨b6,hr6⟩:=W6.out.rd
    refine aY (MU x HX.out c w0 _ v3 (b::r4) none b6 hr6 (W6.out.stp.mod.size) LB.out nb nm av acc W6.out.keep HN.out ab (an.1,an.2,an.2) W6.out.cell.blk p28 v29 _ ?_ f) (by kernel_rfl)
    intro f w' av' hr hm hk
    have HH:=Lh hr
    have HK:=Lh hk
    have HS:=Lh (W6.out.stp.fresh hm)
    have nC:=Lh W6.out.nn
    clear hr hm hk hr6 wG FJ
    refine vg ?_
    exact DL.out _ _ BW.out f w' v3 none b6 av' HH.out nC.out HS.out HK.out
end Go.Proofs.YtdjdjbpnbjdaaaaGreatDoor
