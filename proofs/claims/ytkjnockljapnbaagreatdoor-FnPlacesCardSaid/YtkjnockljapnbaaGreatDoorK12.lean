/- Part of the proof that laws.FnBeginning, laws.FnPlaces returns true for every argument (In2, Na, Cl). No condition of its own. -/
import Derived.Test.YtkjnockljapnbaaGreatDoorK11
import Derived.Lib.SlBytesRow
import Derived.Test.YtkjnockljapnbaaGreatDoorK05
import Derived.Shelf.Pu.Clone
set_option linter.all false
set_option maxHeartbeats 8000000
set_option maxRecDepth 100000
namespace Go.Proofs.YtkjnockljapnbaaGreatDoor
open Go Go.RowKit
def BytesAt (w:World) (b off:Nat) (l:Bs):Prop:=∀ j,j < l.length → w.cell? ⟨b,off + j,none⟩=some (.int .u8 (l.getD j 0).toNat)
theorem BytesAt.below {w w':World} {b off:Nat} {l:Bs} (h:BytesAt w b off l) (hb:Below w.heap.size w w'):BytesAt w' b off l:=fun j hj=>cell_below hb (h j hj)
theorem BytesAt.drop {w:World} {b off:Nat} {l:Bs} (h:BytesAt w b off l) (n:Nat):BytesAt w b (off + n) (l.drop n):=by
  intro j hj
  simp only [List.length_drop] at hj
  have:=h (n + j) (by omega)
  rw [← Nat.add_assoc] at this
  rw [this]
  simp [List.getD_eq_getElem?_getD,List.getElem?_drop]
theorem dec_c (l:Bs) (b off cap:Nat) (w:World) (hT:Lib.Utf8Tabs 6 7 w) (hp:BytesAt w b off l) :
    Calls Tryz.prog 65 #[.slice (some ⟨b,off,none⟩) l.length cap] w fun e w'=>e=.returned (.tuple #[.int .i32 (decL l).1,.int .i64 (decL l).2])∧Below w.heap.size w w':=by
  have hs:(⟨l.toArray⟩:ByteArray).size=l.length:=rfl
  have:=decodeRune_c ⟨l.toArray⟩ b off cap w hT (fun j hj=>by
    rw [hs] at hj
    rw [hp j hj]
    have:(⟨l.toArray⟩:ByteArray).get! j=l.getD j 0:=by simp [ByteArray.get!,List.getD_eq_getElem?_getD,hj]
    rw [this])
  rw [hs] at this
  exact this
theorem decL_pos (l:Bs) (h:l ≠ []):1 ≤ (decL l).2:=by
  have:(⟨l.toArray⟩:ByteArray).size=l.length:=rfl
  have hn:l.length ≠ 0:=by simpa using h
  unfold decL Lib.decodeGoB
  rw [this,if_neg hn]
  exact Lib.width_pos _ _
theorem decL_le (l:Bs):(decL l).1 ≤ 1114111:=by
  unfold decL Lib.decodeGoB
  split
  · decide
  · exact Lib.rune_le _ _
theorem isName_c (l:Bs) (b off cap:Nat) (w:World) (hne:l ≠ []) (hT:Lib.Utf8Tabs 6 7 w) (hp:BytesAt w b off l) (hl:l.length ≤ 100000000000000) (hcl:l.length ≤ cap) (hcm:cap ≤ 9223372036854775807) :
    Calls Tryz.prog 62 #[.slice (some ⟨b,off,none⟩) l.length cap] w fun e w'=>e=.returned (.bool (isNameL l))∧Below w.heap.size w w':=by
  have hlen:((l.length:Int) == 0)=false:=by simpa using hne
  have hdr:=Lib.hid (dec_c l b off cap w hT hp)
  have HIS:=Lib.hid (show isNameL l=(if (decL l).1=65533∧(decL l).2=1 then false else if nmStart (decL l).1 then nameFrom nmCont (l.length - 1) (l.drop (decL l).2) else false) by
    have : l.length = (l.length - 1) + 1 := by have : l.length ≠ 0 := by simpa using hne
                                               omega
    unfold isNameL
    rw [if_neg hne]
    conv=>lhs;rw [this]
    rw [nameFrom,if_neg hne])
  have HT:=Lib.hid hT
  have HP:=Lib.hid hp
  have hr1:=decL_le l
  have hn1:=decL_pos l hne
  have hfc:=Lib.hid first_t
  have hsc:=Lib.hid second_t
  have his:=Lib.hid (fun (Tb:Nat) (r:Nat) (w:World) (hr:r ≤ 1114111) (hA:Lib.RTabAt Tb 0 firstT w)=>Tryz.unicode_Is_any Tb 0 firstT r w (by omega) (by omega) hA first_ok)
  have hi2:=Lib.hid (fun (Tb:Nat) (r:Nat) (w:World) (hr:r ≤ 1114111) (hA:Lib.RTabAt Tb 0 secondT w)=>Tryz.unicode_Is_any Tb 0 secondT r w (by omega) (by omega) hA second_ok)
  obtain ⟨r,hr⟩:∃ r,r=(decL l).1:=⟨_,rfl⟩
  obtain ⟨n,hn⟩:∃ n,n=(decL l).2:=⟨_,rfl⟩
  rw [← hr] at hdr HIS hr1
  rw [← hn] at hdr HIS hn1
  have HR1:=Lib.hid hr1
  clear hr hn hT hp hr1
  have hbad:(((r:Int) == 65533)=false) ∨ (((r:Int) == 65533)=true∧((n:Int) == 1)=false) ∨ (((r:Int) == 65533)=true∧((n:Int) == 1)=true):=by
    cases ((r:Int) == 65533) <;> cases ((n:Int) == 1) <;> simp
  rcases hbad with hb|⟨hb,hb2⟩|⟨hb,hb2⟩
  case inr.inr=>
    go_enter Tryz.func62,Tryz.ntmps62
    go_wp2_with fail
    refine hdr.out.mono ?_
    rintro e1 w1 ⟨rfl,hb1⟩
    have HB1:=Lib.hid hb1
    clear hb1
    go_wp2
    go_ret
    refine ⟨?_,HB1.out⟩
    rw [HIS.out, if_pos ⟨by have : (r : Int) = 65533 := by simpa using hb
                            omega, by have : (n : Int) = 1 := by simpa using hb2
                                      omega⟩];rfl
  all_goals
    have HIS2:Hid (isNameL l=(if nmStart r then nameFrom nmCont (l.length - 1) (l.drop n) else false)):=by
      have:=HIS.out
      rw [if_neg (by intro h;simp_all)] at this
      exact this
    go_enter Tryz.func62,Tryz.ntmps62
    go_wp2_with fail
    refine hdr.out.mono ?_
    rintro e1 w1 ⟨rfl,hb1⟩
    have HB1:=Lib.hid hb1
    clear hb1
    go_wp2_with fail
    refine (hfc.out _).mono ?_
    rintro e2 w2 ⟨Tb,rfl,hA,hb2'⟩
    have hcall:=Lib.hid (his.out Tb r w2 HR1.out hA)
    have HB2:=Lib.hid (HB1.out.trans (hb2'.mono HB1.out.size))
    clear hA hb2'
    go_wp2_with fail
    refine hcall.out.mono ?_
    rintro e3 w3 ⟨rfl,hb3⟩
    have HB3:=Lib.hid (HB2.out.trans (hb3.mono HB2.out.size))
    clear hb3 hcall
    have hst:Lib.isGo firstT (r:Int)=false ∨ Lib.isGo firstT (r:Int)=true:=by cases Lib.isGo firstT (r:Int) <;> simp
    rcases hst with hst|hst
    · go_wp2
      go_ret
      refine ⟨?_,HB3.out⟩
      rw [HIS2.out,if_neg (by unfold nmStart;rw [hst];simp)];rfl
    · have HIS3:Hid (isNameL l=nameFrom nmCont (l.length - 1) (l.drop n)):=by
        have:=HIS2.out
        rw [if_pos (by unfold nmStart;exact hst)] at this
        exact this
      go_wp2
      clear hst hb hlen hdr
      go_loopg [0,3,4] l.length (fun k s _ nv wr=>∃ (lc:Bs) (o cp nn:Nat),s=.slice (some ⟨b,o,none⟩) lc.length cp∧nv=.int .i64 nn∧lc.length=k∧lc.length ≤ 100000000000000∧1 ≤ nn∧lc.length ≤ cp∧cp ≤ 9223372036854775807∧(∃ m,lc=l.drop m∧o=off + m)∧(∃ f,lc.length ≤ f + 1∧isNameL l=nameFrom nmCont f (lc.drop nn))∧Below w.heap.size w wr)
      case atStart=>exact ⟨l,off,cap,n,rfl,rfl,rfl,hl,hn1,hcl,hcm,⟨0,rfl,rfl⟩,⟨l.length - 1,by omega,HIS3.out⟩,HB3.out⟩
      case round=>
        obtain ⟨lc,o,cp,nn,rfl,rfl,hk,hl',hn',hcl',hcm',⟨m,hm1,hm2⟩,⟨f,hf,hnf⟩,hbw⟩:=hrel
        have HM1:=Lib.hid hm1
        have HM2:=Lib.hid hm2
        have hpc:BytesAt wr b o lc:=by rw [hm1,hm2];exact (HP.out.below hbw).drop m
        have HK:=Lib.hid hk
        have HF:=Lib.hid hf
        have HNF:=Lib.hid hnf
        have HBW:=Lib.hid hbw
        have hnd:((nn:Int) < (lc.length:Int)) ∨ ¬ ((nn:Int) < (lc.length:Int)):=by omega
        rcases hnd with hnd|hnd
        · have hdrop:=hpc.drop nn
          have hdr:=dec_c (lc.drop nn) b (o + nn) (cp - nn) wr (Utf8Tabs_below HT.out hbw) hdrop
          rw [List.length_drop] at hdr
          have hne':lc.drop nn ≠ []:=by
            intro h
            have:=congrArg List.length h
            simp at this;omega
          have hfs:∃ f',f=f' + 1:=⟨f - 1,by omega⟩
          obtain ⟨f',rfl⟩:=hfs
          have HNF2:Hid (isNameL l=(if (decL (lc.drop nn)).1=65533∧(decL (lc.drop nn)).2=1 then false else if nmCont (decL (lc.drop nn)).1 then nameFrom nmCont f' ((lc.drop nn).drop (decL (lc.drop nn)).2) else false)):=by
            have:=hnf
            rw [nameFrom,if_neg hne'] at this
            exact this
          have hr1:=decL_le (lc.drop nn)
          have hn2:=decL_pos (lc.drop nn) hne'
          obtain ⟨r2,hr2⟩:∃ r,r=(decL (lc.drop nn)).1:=⟨_,rfl⟩
          obtain ⟨n2,hn2e⟩:∃ n,n=(decL (lc.drop nn)).2:=⟨_,rfl⟩
          rw [← hr2] at hdr HNF2 hr1
          rw [← hn2e] at hdr HNF2 hn2
          have HDR:=Lib.hid hdr
          have HR2:=Lib.hid hr1
          have HN2:=Lib.hid hn2
          have hcn:¬ cp=nn:=by omega
          have q1:(0:Int) ≤ (nn:Int):=by omega
          have q2:(lc.length:Int) ≤ (cp:Int):=by omega
          have q3:(nn:Int) ≤ (lc.length:Int):=by omega
          have q4:(nn:Int) ≤ (cp:Int):=by omega
          have q5:(lc.length:Int) ≤ 100000000000000:=by omega
          have HL':=Lib.hid (And.intro hn' (And.intro hl' (And.intro hcl' hcm')))
          clear hm1 hm2 hk hf hnf hbw hpc hdrop hne' hdr hr1 hn2 hr2 hn2e hl' hn' hcl' hcm'
          have hbad:(((r2:Int) == 65533)=false) ∨ (((r2:Int) == 65533)=true∧((n2:Int) == 1)=false) ∨ (((r2:Int) == 65533)=true∧((n2:Int) == 1)=true):=by
            cases ((r2:Int) == 65533) <;> cases ((n2:Int) == 1) <;> simp
          rcases hbad with hb|⟨hb,hb2⟩|⟨hb,hb2⟩
          case inr.inr=>
            go_wp2_with fail
            refine HDR.out.mono ?_
            rintro e1 w1 ⟨rfl,hb1⟩
            have HB1:=Lib.hid hb1
            clear hb1
            go_wp2
            (try simp only [Exit.inBlock,Exit.then])
            go_ret
            refine ⟨?_,HBW.out.trans (HB1.out.mono HBW.out.size)⟩
            rw [HNF2.out, if_pos ⟨by have : (r2 : Int) = 65533 := by simpa using hb
                                     omega, by have : (n2 : Int) = 1 := by simpa using hb2
                                               omega⟩];rfl
          all_goals
            have HNF3:Hid (isNameL l=(if nmCont r2 then nameFrom nmCont f' ((lc.drop nn).drop n2) else false)):=by
              have:=HNF2.out
              rw [if_neg (by
                rintro ⟨h1,h2⟩
                rw [h1] at hb
                try rw [h2] at hb2
                simp_all)] at this
              exact this
            go_wp2_with fail
            refine HDR.out.mono ?_
            rintro e1 w1 ⟨rfl,hb1⟩
            have HB1:=Lib.hid (HBW.out.trans (hb1.mono HBW.out.size))
            clear hb1
            go_wp2_with fail
            refine (hfc.out _).mono ?_
            rintro e2 w2 ⟨Tb,rfl,hA,hb2'⟩
            have hcall:=Lib.hid (his.out Tb r2 w2 HR2.out hA)
            have HB2:=Lib.hid (HB1.out.trans (hb2'.mono HB1.out.size))
            clear hA hb2'
            go_wp2_with fail
            refine hcall.out.mono ?_
            rintro e3 w3 ⟨rfl,hb3⟩
            have HB3:=Lib.hid (HB2.out.trans (hb3.mono HB2.out.size))
            clear hb3 hcall
            have hst:Lib.isGo firstT (r2:Int)=false ∨ Lib.isGo firstT (r2:Int)=true:=by cases Lib.isGo firstT (r2:Int) <;> simp
            rcases hst with hst|hst
            · go_wp2_with fail
              refine (hsc.out _).mono ?_
              rintro e4 w4 ⟨Tb4,rfl,hA,hb4'⟩
              have hcall:=Lib.hid (hi2.out Tb4 r2 w4 HR2.out hA)
              have HB4:=Lib.hid (HB3.out.trans (hb4'.mono HB3.out.size))
              clear hA hb4'
              go_wp2_with fail
              refine hcall.out.mono ?_
              rintro e5 w5 ⟨rfl,hb5⟩
              have HB5:=Lib.hid (HB4.out.trans (hb5.mono HB4.out.size))
              clear hb5 hcall
              have hst2:Lib.isGo secondT (r2:Int)=false ∨ Lib.isGo secondT (r2:Int)=true:=by cases Lib.isGo secondT (r2:Int) <;> simp
              rcases hst2 with hst2|hst2
              · go_wp2
                (try simp only [Exit.inBlock,Exit.then])
                go_ret
                refine ⟨?_,HB5.out⟩
                rw [HNF3.out,if_neg (by unfold nmCont;rw [hst,hst2];simp)];rfl
              · have HNF4:=Lib.hid (show isNameL l=nameFrom nmCont f' ((lc.drop nn).drop n2) by rw [HNF3.out,if_pos (by unfold nmCont;rw [hst2];simp)])
                go_wp2
                go_roundg (lc.length - nn)
                case measure=>have:=HK.out;have:=HL'.out;omega
                case rel=>exact ⟨lc.drop nn,o + nn,cp - nn,n2,by rw [List.length_drop],rfl,by rw [List.length_drop],by rw [List.length_drop];have:=HL'.out;omega,HN2.out,by rw [List.length_drop];have:=HL'.out;omega,by have:=HL'.out;omega,⟨m + nn,by rw [HM1.out,List.drop_drop],by rw [HM2.out];omega⟩,⟨f',by rw [List.length_drop];have:=HF.out;have:=HL'.out;omega,HNF4.out⟩,HB5.out⟩
            · have HNF4:=Lib.hid (show isNameL l=nameFrom nmCont f' ((lc.drop nn).drop n2) by rw [HNF3.out,if_pos (by unfold nmCont;rw [hst];simp)])
              go_wp2
              go_roundg (lc.length - nn)
              case measure=>have:=HK.out;have:=HL'.out;omega
              case rel=>exact ⟨lc.drop nn,o + nn,cp - nn,n2,by rw [List.length_drop],rfl,by rw [List.length_drop],by rw [List.length_drop];have:=HL'.out;omega,HN2.out,by rw [List.length_drop];have:=HL'.out;omega,by have:=HL'.out;omega,⟨m + nn,by rw [HM1.out,List.drop_drop],by rw [HM2.out];omega⟩,⟨f',by rw [List.length_drop];have:=HF.out;have:=HL'.out;omega,HNF4.out⟩,HB3.out⟩
        · have HNF2:=Lib.hid (show isNameL l=true by
            rw [hnf,show lc.drop nn=[] by apply List.drop_eq_nil_of_le;omega]
            cases f <;> simp [nameFrom])
          clear hm1 hm2 hk hf hnf hbw hpc
          go_wp2
          (try simp only [Exit.inBlock,Exit.then])
          go_ret
          exact ⟨by rw [HNF2.out];rfl,HBW.out⟩
end Go.Proofs.YtkjnockljapnbaaGreatDoor
namespace Go.Proofs.YtkjnockljapnbaaGreatDoor
open Go Go.RowKit
structure Cx.Fit (x:Cx):Prop extends Cx.Ok x where
  u8:Lib.Utf8Tabs 6 7 x.W0
theorem Cx.Fit.tabs {x:Cx} (hx:x.Fit) {w:World} (h:Below x.B x.W0 w):Lib.Utf8Tabs 6 7 w:=Utf8Tabs_below hx.u8 h
abbrev strV (s:Bs):Value:=.string ⟨s.toArray⟩
theorem Stp.ofS0 {x:Cx} {w w':World} {v v':DV} (hm:Mod x.S0 w w') (hb:∀ k,bufBlk v'.bufv k ↔ bufBlk v.bufv k):Stp x w v w' v':=
  ⟨hm.mono (fun _ _ h=>Or.inl h),fun k hk=>Or.inl ((hb k).1 hk)⟩
theorem BufAt.bytes {x:Cx} {w:World} {v:Value} {buf:Bs} (h:BufAt x w v buf) (hne:buf ≠ []):∃ g cap,v=.slice (some ⟨g,0,none⟩) buf.length cap∧BytesAt w g 0 buf∧buf.length ≤ cap∧cap ≤ 9223372036854775807∧x.B ≤ g∧¬ x.S0 g∧g < w.heap.size:=by
  rcases h with ⟨_,hb⟩|⟨g,cap,arr,hv,hg,hsz,hl,hcp,hB,hS,hel⟩
  · exact absurd hb hne
  · exact ⟨g,cap,hv,fun j hj=>by rw [Nat.zero_add,hg.cell];exact hel j hj,hl,hcp,hB,hS,hg.lt⟩
theorem BytesAt.toBytes {w:World} {b off:Nat} {l:Bs} (h:BytesAt w b off l):Lib.Bytes w b off ⟨l.toArray⟩:=by
  intro i hi
  have hi':i < l.length:=hi
  rw [h i hi']
  simp [List.getD_eq_getElem?_getD,hi']
  rfl
theorem conv_str (l:Bs) (w:World) (b off cap:Nat) (h:BytesAt w b off l):(convert 74 9 (.slice (some ⟨b,off,none⟩) l.length cap)).run Tryz.prog w=.ok (strV l) w:=
  Lib.run_convert_whole (P:=Tryz.prog) w 74 5 9 Tryz.underlying74 Tryz.underlying5 Tryz.underlying9 b off ⟨l.toArray⟩ h.toBytes cap
theorem spanName_sum (l:Bs):(spanName l).1.length + (spanName l).2.length=l.length:=by
  induction l with
  | nil=>rfl
  | cons b r ih=>unfold spanName;split <;> simp <;> omega
def NoName (x:Cx) (c:DC) (w:World) (v:DV) (k:EK):Prop:=ErrS x c w v k ∨ (k=.syn∧∃ r b,RdS x c w v r none b)
def NamePost (x:Cx) (c:DC) (w':World) (v':DV) (en:Ending):Except EK (Bs × Bs) → Prop
  | .error k=>en=.returned (.tuple #[.string ⟨#[]⟩,.bool false])∧NoName x c w' v' k
  | .ok (s,r)=>en=.returned (.tuple #[strV s,.bool true])∧RdS x c w' v' r none s
theorem mod_none {w w':World} (hb:Below w.heap.size w w') (S:Nat → Prop):Mod S w w':=⟨hb.os,hb.tape,hb.output,hb.size,fun i hi _=>hb.block i hi⟩
theorem RdS.syn {x:Cx} {c:DC} {w w':World} {v:DV} {rest:Bs} {e:Option EK} {buf:Bs} (h:RdS x c w v rest e buf) (hx:x.Ok) (hb:Below w.heap.size w w') (a:Addr) :
    ErrS x c (w'.setCell ⟨x.d,20,none⟩ (.iface 106 (.pointer (some a)))) { v with err:=.iface 106 (.pointer (some a)) } .syn:=
  ⟨(Mod.below h.base h.base.size (mod_none hb (fun _=>False)) (fun _ h=>h.elim)).setCell hx.d _,(show Blk _ x.d _ _ from Blk.mod (S:=fun _=>False) h.dec (mod_none hb _) id).set 20 _,⟨a,rfl⟩⟩
theorem Stp.syn {x:Cx} {w0 w w':World} {v0 v:DV} (h:Stp x w0 v0 w v) (hb:Below w.heap.size w w') (u:Value):Stp x w0 v0 (w'.setCell ⟨x.d,20,none⟩ u) { v with err:=u }:=
  h.s0 ((mod_none hb x.S0).setCell (p:=⟨x.d,20,none⟩) (Or.inl (Or.inl rfl)) u) rfl
theorem RdS.below {x:Cx} {c:DC} {w w':World} {v:DV} {rest:Bs} {e:Option EK} {buf:Bs} (h:RdS x c w v rest e buf) (hx:x.Ok) (hb:Below w.heap.size w w'):RdS x c w' v rest e buf:=by
  obtain ⟨un,hun,hu⟩:=h.inp
  exact h.step hx (Blk.mod (S:=fun _=>False) h.dec (mod_none hb _) id) (mod_none hb _) ⟨un,hun.mod (mod_none hb (fun _=>False)) id id id,hu⟩ h.pos h.err h.fin rfl
theorem nameL_end {f:Bool} {rest:Bs} (h:(spanName rest).2=[]):nameL f rest=.error (mustE f):=by unfold nameL;rw [if_pos h]
theorem nameL_none {f:Bool} {rest:Bs} (h:(spanName rest).2 ≠ []) (h1:(spanName rest).1=[]):nameL f rest=.error .syn:=by unfold nameL;rw [if_neg h,if_pos h1]
theorem nameL_some {f:Bool} {rest:Bs} (h:(spanName rest).2 ≠ []) (h1:(spanName rest).1 ≠ []):nameL f rest=if isNameL (spanName rest).1 then .ok (spanName rest) else .error .syn:=by unfold nameL;rw [if_neg h,if_neg h1]
theorem name_c (x:Cx) (hx:x.Fit) (c:DC) (hdc:DcOk x c) (w:World) (v:DV) (rest:Bs) (e:Option EK) (buf:Bs) (h:RdS x c w v rest e buf) :
    Calls Tryz.prog 41 #[.pointer (some ⟨x.d,0,none⟩)] w fun en w'=>∃ v',Stp x w v w' v' ∧
      NamePost x c w' v' en (nameL x.o.fails rest):=by
  have HX:=Lib.hid hx
  have HD:=Lib.hid hdc
  have HLL:=Lib.hid (show rest.length ≤ 1000000000 from Nat.le_trans (h.suf.length_le) hx.len)
  have hrs:=Lib.hid (reset_c x hx.toOk c w v rest e buf h)
  clear h hx hdc
  go_enter Tryz.func41,Tryz.ntmps41
  go_wp2_with fail
  refine hrs.out.mono ?_
  rintro e1 w1 ⟨rfl,v1,h1,hn1,hb1,hm1,hz1⟩
  have hrn:=Lib.hid (readName_c x HX.out.toOk c HD.out w1 v1 rest e [] h1 (by simp))
  have HS1:=Lib.hid (Stp.ofS0 hm1 hb1)
  clear h1 hn1 hb1 hm1 hz1 hrs
  go_wp2_with fail
  refine hrn.out.mono ?_
  rintro e2 w2 ⟨v2,hs2,hq⟩
  have HS2:=Lib.hid (HS1.out.trans hs2)
  clear hs2 hrn
  rcases hq with ⟨hsp,rfl,he⟩|⟨hsp,hs1,rfl,hr⟩|⟨hsp,hs1,rfl,hr⟩
  · have HE:=Lib.hid he
    have HSP:=Lib.hid hsp
    clear he hsp
    go_wp2
    go_ret2
    refine ⟨v2,HS2.out,?_⟩
    rw [nameL_end HSP.out]
    exact ⟨rfl,Or.inl HE.out⟩
  · have HR:=Lib.hid hr
    have HSP:=Lib.hid hsp
    have HS1:=Lib.hid hs1
    clear hr hsp hs1
    go_wp2
    go_ret2
    refine ⟨v2,HS2.out,?_⟩
    rw [nameL_none HSP.out HS1.out]
    exact ⟨rfl,Or.inr ⟨rfl,_,_,HR.out⟩⟩
  · rw [List.nil_append] at hr
    obtain ⟨l,hl⟩:∃ l,l=(spanName rest).1:=⟨_,rfl⟩
    have hll:l.length ≤ 1000000000:=by have:=spanName_sum rest;have:=HLL.out;rw [hl];omega
    have HNL:=Lib.hid (show nameL x.o.fails rest=if isNameL l then .ok (l,(spanName rest).2) else .error .syn by
      rw [nameL_some hsp hs1,hl])
    rw [← hl] at hr hs1
    obtain ⟨g,cap,hv,hbytes,hlc,hcm,hBg,hSg,hglt⟩:=hr.bf.bytes hs1
    have hby:=Lib.hid (bytes_c x c w2 v2 _ none l hr)
    have hin:=Lib.hid (fun k=>isName_c l g 0 cap (w2.drewN k) hs1 (HX.out.tabs (Below_drewN hr.base k)) hbytes (by omega) hlc hcm)
    have HR:=Lib.hid hr
    have HBY:=Lib.hid hbytes
    clear hr hbytes hsp hl hBg hSg
    rw [hv] at hby
    go_wp2_with fail
    refine hby.out.mono ?_
    rintro e3 w3 ⟨rfl,k,rfl⟩
    go_wp2_with fail
    refine (hin.out k).mono ?_
    rintro e4 w4 ⟨rfl,hb4⟩
    have hb4':Below w2.heap.size w2 w4:=⟨hb4.os,hb4.tape,hb4.output,hb4.size,hb4.block⟩
    have h4:=HR.out.below HX.out.toOk hb4'
    have HS4:=Lib.hid (HS2.out.s0 (mod_none hb4' _) rfl)
    have hconv:=conv_str l w4 g 0 cap (HBY.out.below hb4')
    have H4:=Lib.hid h4
    clear hb4 hb4' hin hby h4
    have hcase:isNameL l=true ∨ isNameL l=false:=by cases isNameL l <;> simp
    rcases hcase with hc|hc
    · have HN:=Lib.hid (show nameL x.o.fails rest=.ok (l,(spanName rest).2) by rw [HNL.out,if_pos hc])
      go_wp2
      go_ret2
      refine ⟨v2,HS4.out,?_⟩
      rw [HN.out]
      exact ⟨rfl,H4.out⟩
    · have HN:=Lib.hid (show nameL x.o.fails rest=.error .syn by rw [HNL.out,hc];rfl)
      have hsy:=Lib.hid (synErr x.d c v2 w4 H4.out.dec)
      go_wp2_with fail
      refine (hsy.out _).mono ?_
      rintro e5 w5 ⟨rfl,hw5⟩
      have hb5:Below w4.heap.size w4 w5:=by rw [hw5];exact (Below.refl _ w4).alloc (Nat.le_refl _) _
      have hd5:DecAt w5 x.d c v2:=Blk.mod (S:=fun _=>False) H4.out.dec (mod_none hb5 _) id
      have hc5:=hd5.cell
      have hf5:=hd5.frozen
      have HB5:=Lib.hid hb5
      clear hw5 hd5 hb5
      go_wp2
      go_ret2
      refine ⟨{ v2 with err:=.iface 106 (.pointer (some ⟨w4.heap.size,0,none⟩)) },HS4.out.syn HB5.out _,?_⟩
      rw [HN.out]
      exact ⟨rfl,Or.inl (H4.out.syn HX.out.toOk HB5.out _)⟩
end Go.Proofs.YtkjnockljapnbaaGreatDoor
namespace Go.Proofs.YtkjnockljapnbaaGreatDoor
open Go Go.RowKit
def cl_ren:Go.Shelf.Ren:=⟨fun|25=>101|n=>n,
  fun|0=>0|3=>3|4=>4|5=>5|9=>9|37=>74|47=>248|n=>n,
  fun|n=>n⟩
theorem cl_lays:Go.Proofs.LaysPu.n25 Tryz.prog cl_ren:={
  mixed:=by first|kernel_rfl|(intro w;kernel_rfl)|(intro w;rfl)|decide,
  f25:=by first|kernel_rfl|(intro w;kernel_rfl)|(intro w;rfl)|decide,
  t0:=by first|kernel_rfl|(intro w;kernel_rfl)|(intro w;rfl)|decide,a0:=by first|kernel_rfl|(intro w;kernel_rfl)|(intro w;rfl)|decide,z0:=by first|kernel_rfl|(intro w;kernel_rfl)|(intro w;rfl)|decide,v0:=by first|kernel_rfl|(intro w;kernel_rfl)|(intro w;rfl)|decide,i0:=by first|kernel_rfl|(intro w;kernel_rfl)|(intro w;rfl)|decide,
  t3:=by first|kernel_rfl|(intro w;kernel_rfl)|(intro w;rfl)|decide,a3:=by first|kernel_rfl|(intro w;kernel_rfl)|(intro w;rfl)|decide,z3:=by first|kernel_rfl|(intro w;kernel_rfl)|(intro w;rfl)|decide,v3:=by first|kernel_rfl|(intro w;kernel_rfl)|(intro w;rfl)|decide,i3:=by first|kernel_rfl|(intro w;kernel_rfl)|(intro w;rfl)|decide,
  t4:=by first|kernel_rfl|(intro w;kernel_rfl)|(intro w;rfl)|decide,a4:=by first|kernel_rfl|(intro w;kernel_rfl)|(intro w;rfl)|decide,z4:=by first|kernel_rfl|(intro w;kernel_rfl)|(intro w;rfl)|decide,v4:=by first|kernel_rfl|(intro w;kernel_rfl)|(intro w;rfl)|decide,i4:=by first|kernel_rfl|(intro w;kernel_rfl)|(intro w;rfl)|decide,
  t5:=by first|kernel_rfl|(intro w;kernel_rfl)|(intro w;rfl)|decide,a5:=by first|kernel_rfl|(intro w;kernel_rfl)|(intro w;rfl)|decide,z5:=by first|kernel_rfl|(intro w;kernel_rfl)|(intro w;rfl)|decide,v5:=by first|kernel_rfl|(intro w;kernel_rfl)|(intro w;rfl)|decide,i5:=by first|kernel_rfl|(intro w;kernel_rfl)|(intro w;rfl)|decide,
  t9:=by first|kernel_rfl|(intro w;kernel_rfl)|(intro w;rfl)|decide,a9:=by first|kernel_rfl|(intro w;kernel_rfl)|(intro w;rfl)|decide,z9:=by first|kernel_rfl|(intro w;kernel_rfl)|(intro w;rfl)|decide,v9:=by first|kernel_rfl|(intro w;kernel_rfl)|(intro w;rfl)|decide,i9:=by first|kernel_rfl|(intro w;kernel_rfl)|(intro w;rfl)|decide,
  t37:=by first|kernel_rfl|(intro w;kernel_rfl)|(intro w;rfl)|decide,a37:=by first|kernel_rfl|(intro w;kernel_rfl)|(intro w;rfl)|decide,z37:=by first|kernel_rfl|(intro w;kernel_rfl)|(intro w;rfl)|decide,v37:=by first|kernel_rfl|(intro w;kernel_rfl)|(intro w;rfl)|decide,i37:=by first|kernel_rfl|(intro w;kernel_rfl)|(intro w;rfl)|decide,
  t47:=by first|kernel_rfl|(intro w;kernel_rfl)|(intro w;rfl)|decide,a47:=by first|kernel_rfl|(intro w;kernel_rfl)|(intro w;rfl)|decide,z47:=by first|kernel_rfl|(intro w;kernel_rfl)|(intro w;rfl)|decide,v47:=by first|kernel_rfl|(intro w;kernel_rfl)|(intro w;rfl)|decide,i47:=by first|kernel_rfl|(intro w;kernel_rfl)|(intro w;rfl)|decide }
theorem clone_c (s:ByteArray) (w:World) (hlim:s.size ≤ 281474976710656) :
    Calls Tryz.prog 101 #[.string s] w fun e w'=>e=.returned (.string s)∧Below w.heap.size w w':=
  AnyPu.stringslite_Clone cl_lays s w hlim
abbrev errV (a:Addr):Value:=.iface 177 (.pointer (some a))
def NumErrs (w:World):Prop:=(∃ a,w.cell? ⟨8,0,none⟩=some (errV a))∧∃ a,w.cell? ⟨9,0,none⟩=some (errV a)
theorem NumErrs.below {w w':World} {B:Nat} (h:NumErrs w) (h1:8 < B) (h2:9 < B) (hb:Below B w w'):NumErrs w':=by
  obtain ⟨⟨u,hu⟩,⟨v,hv⟩⟩:=h
  exact ⟨⟨u,by rw [hb.cell (p:=⟨_,0,none⟩) h1];exact hu⟩,⟨v,by rw [hb.cell (p:=⟨_,0,none⟩) h2];exact hv⟩⟩
def NumPtr (w:World) (e:Ending) (w':World):Prop:=(∃ a,e=.returned (.pointer (some a)))∧Below w.heap.size w w'
theorem numSyn (fn s:ByteArray) (w:World) (hs:s.size ≤ 1000000000) (a:Addr) (hv:w.cell? ⟨8,0,none⟩=some (errV a)) (hg:8 < w.heap.size) :
    Calls Tryz.prog 93 #[.string fn,.string s] w (NumPtr w):=by
  have hcl:=Lib.hid (fun w=>clone_c s w (by omega))
  have HV:=Lib.hid hv
  go_enter Tryz.func93,Tryz.ntmps93
  go_wp2
  go_region_held3 (fun w'=>w'.cell? ⟨8,0,none⟩=some (errV a))
    (first|go_keep|(show w1.cell? ⟨8,0,none⟩=some (errV a);rw [hb.cell (p:=⟨_,0,none⟩) hg];exact HV.out))
    (first|(go_at_call 101;refine (hcl.out _).mono ?_;rintro e w1 ⟨rfl,hb⟩))
  go_wp2
  go_ret
  exact ⟨⟨_,rfl⟩,(show Below w.heap.size w w1 from ⟨hb.os,hb.tape,hb.output,hb.size,hb.block⟩).alloc hb.size _⟩
theorem numRan (fn s:ByteArray) (w:World) (hs:s.size ≤ 1000000000) (a:Addr) (hv:w.cell? ⟨9,0,none⟩=some (errV a)) (hg:9 < w.heap.size) :
    Calls Tryz.prog 94 #[.string fn,.string s] w (NumPtr w):=by
  have hcl:=Lib.hid (fun w=>clone_c s w (by omega))
  have HV:=Lib.hid hv
  go_enter Tryz.func94,Tryz.ntmps94
  go_wp2
  go_region_held3 (fun w'=>w'.cell? ⟨9,0,none⟩=some (errV a))
    (first|go_keep|(show w1.cell? ⟨9,0,none⟩=some (errV a);rw [hb.cell (p:=⟨_,0,none⟩) hg];exact HV.out))
    (first|(go_at_call 101;refine (hcl.out _).mono ?_;rintro e w1 ⟨rfl,hb⟩))
  go_wp2
  go_ret
  exact ⟨⟨_,rfl⟩,(show Below w.heap.size w w1 from ⟨hb.os,hb.tape,hb.output,hb.size,hb.block⟩).alloc hb.size _⟩
theorem eqNum22 (w:World):(binOp .eql 55 (.iface 218 (.int .i64 2)) (.iface 218 (.int .i64 2))).run Tryz.prog w=.ok (.bool true) w:=by kernel_rfl
theorem eqNum12 (w:World):(binOp .eql 55 (.iface 218 (.int .i64 1)) (.iface 218 (.int .i64 2))).run Tryz.prog w=.ok (.bool false) w:=by kernel_rfl
theorem eqNum11 (w:World):(binOp .eql 55 (.iface 218 (.int .i64 1)) (.iface 218 (.int .i64 1))).run Tryz.prog w=.ok (.bool true) w:=by kernel_rfl
def AnErr (w:World) (e:Ending) (w':World):Prop:=(∃ t v,e=.returned (.iface t v))∧Below w.heap.size w w'
theorem toError_c (k:Int) (hk:k=1 ∨ k=2) (fn s:ByteArray) (base:Int) (w:World) (hs:s.size ≤ 1000000000) (hn:NumErrs w) (h1:8 < w.heap.size) (h2:9 < w.heap.size) :
    Calls Tryz.prog 79 #[.string fn,.string s,.int .i64 base,.int .i64 64,.iface 218 (.int .i64 k)] w (AnErr w):=by
  obtain ⟨⟨u,hu⟩,⟨v,hv⟩⟩:=hn
  have ha:=Lib.hid (numSyn fn s w hs u hu h1)
  have hb:=Lib.hid (numRan fn s w hs v hv h2)
  clear hu hv h1 h2
  have q22:=eqNum22
  have q12:=eqNum12
  have q11:=eqNum11
  rcases hk with rfl|rfl
  · go_enter Tryz.func79,Tryz.ntmps79
    go_wp2_with fail
    refine hb.out.mono ?_
    rintro e w1 ⟨⟨a,rfl⟩,hw⟩
    have HW:=Lib.hid hw
    clear hw
    go_wp2
    go_ret
    exact ⟨⟨_,_,rfl⟩,HW.out⟩
  · go_enter Tryz.func79,Tryz.ntmps79
    go_wp2_with fail
    refine ha.out.mono ?_
    rintro e w1 ⟨⟨a,rfl⟩,hw⟩
    have HW:=Lib.hid hw
    clear hw
    go_wp2
    go_ret
    exact ⟨⟨_,_,rfl⟩,HW.out⟩
def PuFin (hex:Bool) (ds:Bs) (en:Ending):Prop:=
  if ds=[] ∨ 18446744073709551616 ≤ numVal hex ds then ∃ n t u,en=.returned (.tuple #[.int .u64 n,.iface t u]) else en=.returned (.tuple #[.int .u64 (numVal hex ds),.nilIface])
theorem parseUint_c (hex:Bool) (ds:Bs) (hd:∀ b ∈ ds,isDig hex b=true) (hl:ds.length ≤ 1000000000) (w:World) (hn:NumErrs w) (h1:8 < w.heap.size) (h2:9 < w.heap.size) :
    Calls Tryz.prog 60 #[strL ds,.int .i64 (if hex then 16 else 10),.int .i64 64] w fun en w'=>PuFin hex ds en∧Below w.heap.size w w':=by
  have hin:=Lib.hid (parseUintI_c hex ds hd hl w)
  have HT:=Lib.hid (fun (k:Int) (hk:k=1 ∨ k=2) (fn:ByteArray) (base:Int) (w':World) (hb:Below w.heap.size w w')=>toError_c k hk fn ⟨ds.toArray⟩ base w' (by show ds.length ≤ _;omega) (hn.below h1 h2 hb) (Nat.lt_of_lt_of_le h1 hb.size) (Nat.lt_of_lt_of_le h2 hb.size))
  clear hn h1 h2 hd
  obtain ⟨base,hbase⟩:∃ base:Int,base=if hex then 16 else 10:=⟨_,rfl⟩
  rw [← hbase] at hin ⊢
  clear hbase
  go_enter Tryz.func60,Tryz.ntmps60
  go_wp2_with fail
  refine hin.out.mono ?_
  rintro e w1 ⟨hp,hw⟩
  unfold PuPost at hp
  by_cases hc:ds=[] ∨ 18446744073709551616 ≤ numVal hex ds
  · rw [if_pos hc] at hp
    obtain ⟨n,k,rfl,hk⟩:=hp
    have HC:=Lib.hid hc
    have HW:=Lib.hid hw
    have ht:=Lib.hid (fun (fn:ByteArray) (base:Int)=>HT.out k hk fn base w1 hw)
    clear hc hw hk
    go_wp2_with fail
    refine (ht.out _ _).mono ?_
    rintro e2 w2 ⟨⟨t,u,rfl⟩,hw2⟩
    have HW2:=Lib.hid hw2
    clear hw2
    go_wp2
    go_ret2
    refine ⟨?_,HW.out.trans (HW2.out.mono HW.out.size)⟩
    unfold PuFin
    rw [if_pos HC.out]
    exact ⟨_,_,_,rfl⟩
  · rw [if_neg hc] at hp
    subst hp
    have HC:=Lib.hid hc
    have HW:=Lib.hid hw
    clear hc hw
    go_wp2
    go_ret2
    refine ⟨?_,HW.out⟩
    unfold PuFin
    rw [if_neg HC.out]
    rfl
end Go.Proofs.YtkjnockljapnbaaGreatDoor
