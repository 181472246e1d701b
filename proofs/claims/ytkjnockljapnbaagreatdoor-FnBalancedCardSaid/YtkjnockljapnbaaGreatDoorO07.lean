/- Part of the proof that laws.FnBalanced returns true for every argument (Gd, Buf, Shelf, Bw). No condition of its own. -/
import Derived.Test.YtkjnockljapnbaaGreatDoorO06
import Derived.Deep.LoopGhost
import Derived.LaidEql
import Derived.Shelf.Small.Strs
import Derived.Shelf.Strconv.Itoa0
import Derived.Shelf.LaysM
import Derived.Shelf.Bytes.Len
import Derived.Shelf.Bytes.TryGrow
import Derived.Shelf.Bytes.GrowSliceCatch
import Derived.Shelf.Bytes.GrowSlice
import Derived.Shelf.Bytes.GrowRow0
import Derived.Shelf.Bytes.GrowRow
import Derived.Shelf.Strings.Search1
import Derived.Shelf.Strings.Fold
import Derived.Shelf.Unicode.DecodeSlow
import Derived.Shelf.Unicode.DecodeAny
import Derived.Shelf.Unicode.Is16White
import Derived.Shelf.Unicode.CaseLookup
import Derived.Shelf.Unicode.CaseConvert
import Derived.Shelf.Unicode.Is16Any
import Derived.Shelf.Unicode.Is32Any
import Derived.Ground.GgnProg
import Derived.Shelf.Unicode.PredsGn
import Derived.Test.YtkjnockljapnbaaGreatDoorProg
set_option linter.all false
set_option maxHeartbeats 8000000
set_option maxRecDepth 100000
namespace Go.Proofs.YtkjnockljapnbaaGreatDoor
open Go Go.RowKit
theorem run_eql_iface_types {P:Program} {ti t u:TypeId} {ms:Array (String × TypeId)} (a b:Value) (w:World) (hi:P.underlying ti=some (.interface ms)) (hn:t ≠ u) :
    (binOp .eql ti (.iface t a) (.iface u b)).run P w=.ok (.bool false) w:=by
  have h:∀ d:Nat,(Op.equalIn (d + 1) ti (.iface t a) (.iface u b)).run P w=.ok false w:=fun d=>by
    simp [Op.equalIn,run_underlying hi,hn]
  simp only [binOp]
  simp [Op.equal,Op.maxDepth,h 9999]
theorem errComparable:(Tryz.prog.info? 177).map (·.comparable)=some true:=by kernel_rfl
theorem errElem:(Tryz.prog.info? 179).map (·.size)=some 1:=by kernel_rfl
theorem eql_eof (a:Addr) (w:World):(binOp .eql 55 (.iface 177 (.pointer (some a))) (.iface 177 (.pointer (some a)))).run Tryz.prog w=.ok (.bool true) w:=by
  have h1:=errComparable
  have h2:=errElem
  cases hi:Tryz.prog.info? 177 with
  | none=>rw [hi] at h1;cases h1
  | some i=>
    cases hj:Tryz.prog.info? 179 with
    | none=>rw [hj] at h2;cases h2
    | some j=>
      rw [hi] at h1
      exact run_eql_iface_ptr_same w a Tryz.underlying55 Tryz.underlying177 hi (by simpa using h1) hj
theorem eql_own (a:Value) (b:Value) (w:World):(binOp .eql 55 (.iface 109 a) (.iface 177 b)).run Tryz.prog w=.ok (.bool false) w:=
  run_eql_iface_types a b w Tryz.underlying55 (by decide)
theorem eql_syn (a:Value) (b:Value) (w:World):(binOp .eql 55 (.iface 106 a) (.iface 177 b)).run Tryz.prog w=.ok (.bool false) w:=
  run_eql_iface_types a b w Tryz.underlying55 (by decide)
theorem u8ne {b c:UInt8} {n:Int} (h:b ≠ c) (hc:(c.toNat:Int)=n):((b.toNat:Int) == n)=false:=by
  subst hc
  simp
  intro h'
  exact h (UInt8.toNat_inj.1 (by omega))
theorem RdS.suf {x:Cx} {c:DC} {w:World} {v:DV} {rest:Bs} {e:Option EK} {buf:Bs} (h:RdS x c w v rest e buf):rest <:+ x.T:=by
  obtain ⟨pre,hT,_⟩:=h.pos
  exact ⟨pre,hT.symm⟩
theorem getc_some (x:Cx) (hx:x.Ok) (c:DC) (hdc:DcOk x c) (w:World) (v:DV) (b:UInt8) (rest:Bs) (e:Option EK) (buf:Bs) (h:RdS x c w v (b :: rest) e buf) :
    Calls Tryz.prog 35 #[.pointer (some ⟨x.d,0,none⟩)] w fun e w'=>e=.returned (.tuple #[.int .u8 b.toNat,.bool true]) ∧
      ∃ v',RdS x c w' v' rest none buf∧v'.nb=-1∧v'.bufv=v.bufv∧Mod x.S0 w w'∧w'.heap.size=w.heap.size:=by
  have he:e=none:=by rcases h.fin with h|⟨_,h⟩;exact h;cases h
  subst he
  obtain ⟨un,hb,hun⟩:=h.inp
  rcases hun with ⟨hn,rfl⟩|⟨b',hn,hu⟩
  · exact getc_rd x hx c hdc w v b rest buf h hb hn
  · cases hu
    exact getc_nb x hx c w v b rest rest buf h hb hn rfl
theorem getc_none (x:Cx) (hx:x.Ok) (c:DC) (hdc:DcOk x c) (w:World) (v:DV) (e:Option EK) (buf:Bs) (h:RdS x c w v [] e buf) :
    Calls Tryz.prog 35 #[.pointer (some ⟨x.d,0,none⟩)] w fun e w'=>e=.returned (.tuple #[.int .u8 0,.bool false]) ∧
      ∃ v',RdS x c w' v' [] (some (endE x.o.fails)) buf∧v'.nb=-1∧v'.bufv=v.bufv∧Mod x.S0 w w'∧w'.heap.size=w.heap.size:=by
  have hn:v.nb=-1:=by
    obtain ⟨un,hb,hun⟩:=h.inp
    rcases hun with ⟨h1,h2⟩|⟨b,_,h2⟩
    · exact h1
    · cases h2
  rcases h.fin with he|⟨he,_⟩
  · subst he
    exact getc_end x hx c hdc w v buf h
  · subst he
    have hev:∃ u t,v.err=.iface u t:=by
      have:=h.err
      unfold endE at this
      split at this <;> exact ⟨_,_,this⟩
    obtain ⟨u,t,hev⟩:=hev
    refine (getc_err c x.d w v h.dec u t hev).mono ?_
    rintro e w' ⟨rfl,rfl⟩
    exact ⟨rfl,v,h,hn,rfl,Mod.refl _ _,rfl⟩
theorem ungetc_c (x:Cx) (hx:x.Ok) (c:DC) (w:World) (v:DV) (b:UInt8) (rest:Bs) (buf:Bs) (h:RdS x c w v rest none buf) (hn:v.nb=-1) (hsuf:(b :: rest) <:+ x.T) :
    Calls Tryz.prog 36 #[.pointer (some ⟨x.d,0,none⟩),.int .u8 b.toNat] w fun e w'=>e=.returned (.tuple #[]) ∧
      ∃ v',RdS x c w' v' (b :: rest) none buf∧v'.nb=b.toNat∧v'.bufv=v.bufv∧Mod x.S0 w w'∧w'.heap.size=w.heap.size:=by
  obtain ⟨un,hb,hun⟩:=h.inp
  have hun':rest=un:=by
    rcases hun with ⟨_,h2⟩|⟨b,h1,h2⟩
    · exact h2
    · omega
  subst hun'
  clear hun
  have hc:=h.dec.cell
  have hf:=h.dec.frozen
  obtain ⟨o1,o2,l1,l2⟩:=h.pos.bounds hx
  have hb1:=UInt8.toNat_lt b
  have HX:=Lib.hid hx
  have HS:=Lib.hid h
  have HB:=Lib.hid hb
  have HN:=Lib.hid hn
  have HU:=Lib.hid hsuf
  obtain ⟨sb,sl,snb,serr,sline,sls,soff⟩:=v
  simp only at hn o1 o2 l1 l2
  clear h hx hb hsuf hn
  by_cases h10:b=10
  · subst h10
    go_enter Tryz.func36,Tryz.ntmps36
    go_wp2
    go_end0
    have hd:=((HS.out.dec.set 21 (.int .i64 (sline - 1))).set 18 (.int .i64 10)).set 23 (.int .i64 (soff - 1))
    have hm:=(((Mod.refl (fun k=>k=x.d) w).setCell (p:=⟨x.d,21,none⟩) (Or.inl rfl) (.int .i64 (sline - 1))).setCell (p:=⟨x.d,18,none⟩) (Or.inl rfl) (.int .i64 10)).setCell (p:=⟨x.d,23,none⟩) (Or.inl rfl) (.int .i64 (soff - 1))
    have hm0:Mod x.S0 w _:=hm.mono (fun _ _ h=>Or.inl h)
    refine ⟨rfl,⟨sb,sl,10,serr,sline - 1,sls,soff - 1⟩,HS.out.step HX.out hd hm0 ⟨rest,HB.out.mod hm (fun h=>HX.out.ne1 h.symm) (fun h=>HX.out.ne2 h.symm) (fun h=>HX.out.ne3 h.symm),Or.inr ⟨10,rfl,rfl⟩⟩ ?_ HS.out.err (Or.inl rfl) rfl,rfl,rfl,hm0,by simp [World.setCell]⟩
    exact HS.out.pos.put HU.out HN.out _ rfl rfl (by simp) rfl
  · have hb10:=u8ne10 h10
    go_enter Tryz.func36,Tryz.ntmps36
    go_wp2
    go_end0
    have hd:=(HS.out.dec.set 18 (.int .i64 b.toNat)).set 23 (.int .i64 (soff - 1))
    have hm:=((Mod.refl (fun k=>k=x.d) w).setCell (p:=⟨x.d,18,none⟩) (Or.inl rfl) (.int .i64 b.toNat)).setCell (p:=⟨x.d,23,none⟩) (Or.inl rfl) (.int .i64 (soff - 1))
    have hm0:Mod x.S0 w _:=hm.mono (fun _ _ h=>Or.inl h)
    refine ⟨rfl,⟨sb,sl,b.toNat,serr,sline,sls,soff - 1⟩,HS.out.step HX.out hd hm0 ⟨rest,HB.out.mod hm (fun h=>HX.out.ne1 h.symm) (fun h=>HX.out.ne2 h.symm) (fun h=>HX.out.ne3 h.symm),Or.inr ⟨b,rfl,rfl⟩⟩ ?_ HS.out.err (Or.inl rfl) rfl,rfl,rfl,hm0,by simp [World.setCell]⟩
    exact HS.out.pos.put HU.out HN.out _ rfl rfl (by simp [h10]) rfl
theorem mustgetc_some (x:Cx) (hx:x.Ok) (c:DC) (hdc:DcOk x c) (w:World) (v:DV) (b:UInt8) (rest:Bs) (e:Option EK) (buf:Bs) (h:RdS x c w v (b :: rest) e buf) :
    Calls Tryz.prog 38 #[.pointer (some ⟨x.d,0,none⟩)] w fun e w'=>e=.returned (.tuple #[.int .u8 b.toNat,.bool true]) ∧
      ∃ v',RdS x c w' v' rest none buf∧v'.nb=-1∧v'.bufv=v.bufv∧Mod x.S0 w w'∧w'.heap.size=w.heap.size:=by
  have hcon:=Lib.hid (getc_some x hx c hdc w v b rest e buf h)
  clear h hx hdc
  go_enter Tryz.func38,Tryz.ntmps38
  go_wp2_with fail
  refine hcon.out.mono ?_
  rintro e w1 ⟨rfl,hq⟩
  have HQ:=Lib.hid hq
  clear hq hcon
  go_wp2
  go_ret2
  exact ⟨rfl,HQ.out⟩
theorem mustgetc_none (x:Cx) (hx:x.Ok) (c:DC) (hdc:DcOk x c) (w:World) (v:DV) (e:Option EK) (buf:Bs) (h:RdS x c w v [] e buf) :
    Calls Tryz.prog 38 #[.pointer (some ⟨x.d,0,none⟩)] w fun e w'=>e=.returned (.tuple #[.int .u8 0,.bool false]) ∧
      ∃ v',ErrS x c w' v' (mustE x.o.fails)∧v'.bufv=v.bufv∧Mod x.S0 w w':=by
  have hcon:=Lib.hid (getc_none x hx c hdc w v e buf h)
  have HX:=Lib.hid hx
  clear h hx hdc
  go_enter Tryz.func38,Tryz.ntmps38
  go_wp2_with fail
  refine hcon.out.mono ?_
  rintro e w1 ⟨rfl,v1,h1,hn1,hb1,hm1,hz1⟩
  have hc1:=h1.dec.cell
  have hf1:=h1.dec.frozen
  have heof:w1.cell? ⟨0,0,none⟩=some x.eofV:=by rw [← HX.out.eof];exact h1.base.cell HX.out.gB
  have herr:=h1.err
  have H1:=Lib.hid h1
  have HB1:=Lib.hid hb1
  have HM1:=Lib.hid hm1
  have HE:=Lib.hid (fun k msg=>synErr x.d c v1 (w1.drewN k) h1.dec msg)
  clear h1 hb1 hm1 hz1 hn1 hcon
  have q1:=fun a w=>eql_eof a w
  have q2:=fun a b w=>eql_own a b w
  cases hfl:x.o.fails
  · have he:v1.err=x.eofV:=by rw [hfl] at herr;exact herr
    clear herr
    go_wp2
    go_quiet (fail)
    go_wp2_with fail
    refine (HE.out _ _).mono ?_
    rintro e w2 ⟨rfl,hw2⟩
    have hd2:DecAt w2 x.d c v1:=by rw [hw2];exact Blk.alloc (show Blk (w1.drewN _) _ _ _ from H1.out.dec) _
    have hm2:Mod x.S0 w w2:=by rw [hw2];exact (HM1.out.drewN _).alloc _
    have hc2:=hd2.cell
    have hf2:=hd2.frozen
    have HD2:=Lib.hid hd2
    have HM2:=Lib.hid hm2
    have HB0:=Lib.hid H1.out.base
    have hb2:Below x.B x.W0 w2:=by rw [hw2];exact (Below_drewN HB0.out _).alloc HB0.out.size _
    have HB2:=Lib.hid hb2
    clear hw2 hd2 hm2 hb2 hc1 hf1
    go_wp2
    go_ret2
    rw [show mustE x.o.fails=.syn by rw [hfl];rfl]
    exact ⟨rfl,{ v1 with err:=.iface 106 (.pointer (some ⟨w1.heap.size,0,none⟩)) },⟨HB2.out.setCell HX.out.d _,HD2.out.set 20 _,⟨_,rfl⟩⟩,HB1.out,HM2.out.setCell (Or.inl (Or.inl rfl)) _⟩
  · have he:v1.err=ownV:=by rw [hfl] at herr;exact herr
    clear herr
    go_wp2
    go_quiet (fail)
    go_wp2
    go_ret2
    rw [show mustE x.o.fails=.own by rw [hfl];rfl]
    exact ⟨rfl,v1,⟨Below_drewN H1.out.base _,H1.out.dec,he⟩,HB1.out,HM1.out.drewN _⟩
structure SpPost (x:Cx) (c:DC) (w:World) (v:DV) (rest:Bs) (buf:Bs) (w':World) (v':DV) (e':Option EK):Prop where
  rd:RdS x c w' v' (skipWs rest) e' buf
  bufv:v'.bufv=v.bufv
  mod:Mod x.S0 w w'
theorem space_c (x:Cx) (hx:x.Ok) (c:DC) (hdc:DcOk x c) (w:World) (v:DV) (rest:Bs) (e:Option EK) (buf:Bs) (h:RdS x c w v rest e buf) :
    Calls Tryz.prog 40 #[.pointer (some ⟨x.d,0,none⟩)] w fun en w'=>en=.returned (.tuple #[])∧∃ v' e',SpPost x c w v rest buf w' v' e':=by
  have HX:=Lib.hid hx
  have HD:=Lib.hid hdc
  have H:=Lib.hid h
  clear h hx hdc
  go_enter Tryz.func40,Tryz.ntmps40
  go_wp2
  go_loopg [2,3] rest.length (fun k _ _ wr=>∃ v1 e1 rest1,rest1.length=k∧skipWs rest1=skipWs rest∧RdS x c wr v1 rest1 e1 buf∧v1.bufv=v.bufv∧Mod x.S0 w wr)
  case atStart=>exact ⟨v,e,rest,rfl,rfl,H.out,rfl,Mod.refl _ _⟩
  case round=>
    obtain ⟨v1,e1,rest1,hk,hsk,h1,hb1,hm1⟩:=hrel
    cases rest1 with
    | nil=>
      have hcon:=Lib.hid (getc_none x HX.out c HD.out wr v1 e1 buf h1)
      have HSK:=Lib.hid hsk
      have HB1:=Lib.hid hb1
      have HM1:=Lib.hid hm1
      clear h1 hb1 hm1 hsk hk
      go_wp2_with fail
      refine hcon.out.mono ?_
      rintro e2 w2 ⟨rfl,v2,h2,hn2,hb2,hm2,hz2⟩
      have H2:=Lib.hid h2
      have HB2:=Lib.hid hb2
      have HM2:=Lib.hid hm2
      clear h2 hb2 hm2 hz2 hn2 hcon
      go_wp2
      (try simp only [Exit.inBlock,Exit.then]);refine bodyPost_ret (results_none rfl _ _ _) rfl ?_
      exact ⟨rfl,v2,_,by rw [← HSK.out];exact H2.out,HB2.out.trans HB1.out,HM1.out.trans HM2.out (fun _ _ h=>h)⟩
    | cons b r=>
      have hcon:=Lib.hid (getc_some x HX.out c HD.out wr v1 b r e1 buf h1)
      have HSK:=Lib.hid hsk
      have HB1:=Lib.hid hb1
      have HM1:=Lib.hid hm1
      have HK:=Lib.hid hk
      have HSUF:=Lib.hid h1.suf
      clear h1 hb1 hm1 hsk hk
      by_cases hws:isWs b=true
      · have hb:b=32 ∨ b=13 ∨ b=10 ∨ b=9:=by
          simpa [isWs,or_assoc] using hws
        have HSK2:Hid (skipWs r=skipWs rest):=by
          have:=HSK.out
          rw [skipWs,if_pos hws] at this
          exact this
        clear hws
        rcases hb with rfl|rfl|rfl|rfl
        all_goals
          go_wp2_with fail
          refine hcon.out.mono ?_
          rintro e2 w2 ⟨rfl,v2,h2,hn2,hb2,hm2,hz2⟩
          have H2:=Lib.hid h2
          have HB2:=Lib.hid hb2
          have HM2:=Lib.hid hm2
          clear h2 hb2 hm2 hz2 hn2 hcon
          go_wp2
          go_roundg r.length
          case measure=>have:=HK.out;simp at this;omega
          case rel=>exact ⟨v2,none,r,rfl,HSK2.out,H2.out,HB2.out.trans HB1.out,HM1.out.trans HM2.out (fun _ _ h=>h)⟩
      · have hb:b ≠ 32∧b ≠ 13∧b ≠ 10∧b ≠ 9:=by
          refine ⟨?_,?_,?_,?_⟩ <;> (intro h;subst h;exact hws rfl)
        have HSK2:Hid (skipWs rest=b :: r):=by
          have:=HSK.out
          rw [skipWs,if_neg hws] at this
          exact this.symm
        have t1:((b.toNat:Int) == 32)=false:=u8ne hb.1 rfl
        have t2:((b.toNat:Int) == 13)=false:=u8ne hb.2.1 rfl
        have t3:((b.toNat:Int) == 10)=false:=u8ne hb.2.2.1 rfl
        have t4:((b.toNat:Int) == 9)=false:=u8ne hb.2.2.2 rfl
        clear hws hb
        go_wp2_with fail
        refine hcon.out.mono ?_
        rintro e2 w2 ⟨rfl,v2,h2,hn2,hb2,hm2,hz2⟩
        have hun:=Lib.hid (ungetc_c x HX.out c w2 v2 b r buf h2 hn2 HSUF.out)
        have HB2:=Lib.hid hb2
        have HM2:=Lib.hid hm2
        clear h2 hb2 hm2 hz2 hn2 hcon
        go_wp2_with fail
        refine hun.out.mono ?_
        rintro e3 w3 ⟨rfl,v3,h3,hn3,hb3,hm3,hz3⟩
        have H3:=Lib.hid h3
        have HB3:=Lib.hid hb3
        have HM3:=Lib.hid hm3
        clear h3 hb3 hm3 hz3 hn3 hun
        go_wp2
        (try simp only [Exit.inBlock,Exit.then]);refine bodyPost_ret (results_none rfl _ _ _) rfl ?_
        exact ⟨rfl,v3,none,by rw [HSK2.out];exact H3.out,HB3.out.trans (HB2.out.trans HB1.out),(HM1.out.trans HM2.out (fun _ _ h=>h)).trans HM3.out (fun _ _ h=>h)⟩
end Go.Proofs.YtkjnockljapnbaaGreatDoor
namespace Go.Proofs.YtkjnockljapnbaaGreatDoor
open Go Go.RowKit
theorem RdS.buf {x:Cx} (hx:x.Ok) {c:DC} {w w':World} {v v':DV} {rest:Bs} {e:Option EK} {buf buf':Bs} (h:RdS x c w v rest e buf) (dec:DecAt w' x.d c v') (hm:Mod (fun k=>k=x.d ∨ bufBlk v.bufv k) w w')
    (h1:v'.nb=v.nb) (h2:v'.err=v.err) (h3:v'.line=v.line) (h4:v'.lstart=v.lstart) (h5:v'.off=v.off) (bf:BufAt x w' v'.bufv buf'):RdS x c w' v' rest e buf':=by
  have hs:∀ k,x.Sio k → ¬ (k=x.d ∨ bufBlk v.bufv k):=by
    intro k hk hk'
    rcases hk' with hk'|hk'
    · subst hk'
      rcases hk with h|h|h
      · exact hx.ne1 h
      · exact hx.ne2 h
      · exact hx.ne3 h
    · exact h.bf.notS0 k hk' (Or.inr hk)
  refine ⟨Mod.below h.base h.base.size hm ?_,dec,?_,?_,by rw [h2];exact h.err,h.fin,bf⟩
  · intro i hi
    rcases hi with hi|hi
    · subst hi;exact hx.d
    · rcases h.bf with ⟨hv,_⟩|⟨g,cap,arr,hv,_,_,_,_,hg,_,_⟩
      · rw [hv] at hi;exact hi.elim
      · rw [hv] at hi
        have:i=g:=hi
        omega
  · obtain ⟨un,hb,hun⟩:=h.inp
    exact ⟨un,hb.mod hm (hs _ (Or.inl rfl)) (hs _ (Or.inr (Or.inl rfl))) (hs _ (Or.inr (Or.inr rfl))),by rw [h1];exact hun⟩
  · obtain ⟨pre,a,b,c',d⟩:=h.pos
    exact ⟨pre,a,by rw [h5];exact b,by rw [h3];exact c',by rw [h1,h4];exact d⟩
theorem reset_c (x:Cx) (hx:x.Ok) (c:DC) (w:World) (v:DV) (rest:Bs) (e:Option EK) (buf:Bs) (h:RdS x c w v rest e buf) :
    Calls Tryz.prog 42 #[.pointer (some ⟨x.d,7,none⟩)] w fun en w'=>en=.returned (.tuple #[])∧∃ v',RdS x c w' v' rest e []∧v'.nb=v.nb∧(∀ k,bufBlk v'.bufv k ↔ bufBlk v.bufv k)∧Mod x.S0 w w'∧w'.heap.size=w.heap.size:=by
  have hc:=h.dec.cell
  have hf:=h.dec.frozen
  have HX:=Lib.hid hx
  have H:=Lib.hid h
  obtain ⟨sb,sl,snb,serr,sline,sls,soff⟩:=v
  have hbf:=h.bf
  clear h hx
  rcases hbf with ⟨hv,hb⟩|⟨g,cap,arr,hv,hg,hsz,hl,hcp,hBg,hnS,hel⟩
  · simp only at hv
    subst hv
    go_enter Tryz.func42,Tryz.ntmps42
    go_wp2
    go_end0
    have hd:=((H.out.dec.set 7 (.slice none 0 0)).set 8 (.int .i64 0)).set 9 (.int .i8 0)
    have hm:=(((Mod.refl (fun k=>k=x.d) w).setCell (p:=⟨x.d,7,none⟩) (Or.inl rfl) (.slice none 0 0)).setCell (p:=⟨x.d,8,none⟩) (Or.inl rfl) (.int .i64 0)).setCell (p:=⟨x.d,9,none⟩) (Or.inl rfl) (.int .i8 0)
    exact ⟨rfl,⟨.slice none 0 0,0,snb,serr,sline,sls,soff⟩,H.out.buf HX.out hd (hm.mono (fun _ _ h=>Or.inl h)) rfl rfl rfl rfl rfl (Or.inl ⟨rfl,rfl⟩),rfl,fun k=>Iff.rfl,hm.mono (fun _ _ h=>Or.inl h),by simp [World.setCell]⟩
  · simp only at hv
    subst hv
    have HG:=Lib.hid hg
    have HEL:=Lib.hid hel
    clear hg hel
    go_enter Tryz.func42,Tryz.ntmps42
    go_wp2
    go_end0
    have hd:=((H.out.dec.set 7 (.slice (some ⟨g,0,none⟩) 0 cap)).set 8 (.int .i64 0)).set 9 (.int .i8 0)
    have hm:=(((Mod.refl (fun k=>k=x.d) w).setCell (p:=⟨x.d,7,none⟩) (Or.inl rfl) (.slice (some ⟨g,0,none⟩) 0 cap)).setCell (p:=⟨x.d,8,none⟩) (Or.inl rfl) (.int .i64 0)).setCell (p:=⟨x.d,9,none⟩) (Or.inl rfl) (.int .i8 0)
    have hgd:g ≠ x.d:=fun h=>hnS (Or.inl h)
    exact ⟨rfl,⟨.slice (some ⟨g,0,none⟩) 0 cap,0,snb,serr,sline,sls,soff⟩,H.out.buf HX.out hd (hm.mono (fun _ _ h=>Or.inl h)) rfl rfl rfl rfl rfl
      (Or.inr ⟨g,cap,arr,rfl,((HG.out.set_ne hgd _).set_ne hgd _).set_ne hgd _,hsz,Nat.zero_le _,hcp,hBg,hnS,fun j hj=>by simp at hj⟩),rfl,fun k=>Iff.rfl,hm.mono (fun _ _ h=>Or.inl h),by simp [World.setCell]⟩
theorem bytes_c (x:Cx) (c:DC) (w:World) (v:DV) (rest:Bs) (e:Option EK) (buf:Bs) (h:RdS x c w v rest e buf) :
    Calls Tryz.prog 44 #[.pointer (some ⟨x.d,7,none⟩)] w fun en w'=>en=.returned v.bufv∧∃ k,w'=w.drewN k:=by
  have hc:=h.dec.cell
  have hf:=h.dec.frozen
  have hbf:=h.bf
  obtain ⟨sb,sl,snb,serr,sline,sls,soff⟩:=v
  clear h
  rcases hbf with ⟨hv,hb⟩|⟨g,cap,arr,hv,hg,hsz,hl,hcp,hBg,hnS,hel⟩
  all_goals
    simp only at hv
    subst hv
    try clear hg hel hBg hnS
    go_enter Tryz.func44,Tryz.ntmps44
    go_wp2
    go_quiet (fail)
    go_wp2
    go_ret
    exact ⟨rfl,_,rfl⟩
theorem len_c (x:Cx) (c:DC) (w:World) (v:DV) (rest:Bs) (e:Option EK) (buf:Bs) (h:RdS x c w v rest e buf) :
    Calls Tryz.prog 49 #[.pointer (some ⟨x.d,7,none⟩)] w fun en w'=>en=.returned (.int .i64 buf.length)∧∃ k,w'=w.drewN k:=by
  have hc:=h.dec.cell
  have hf:=h.dec.frozen
  have hbf:=h.bf
  obtain ⟨sb,sl,snb,serr,sline,sls,soff⟩:=v
  clear h
  rcases hbf with ⟨hv,hb⟩|⟨g,cap,arr,hv,hg,hsz,hl,hcp,hBg,hnS,hel⟩
  · simp only at hv
    subst hv hb
    go_enter Tryz.func49,Tryz.ntmps49
    go_wp2
    go_quiet (fail)
    go_wp2
    go_ret
    exact ⟨rfl,_,rfl⟩
  · simp only at hv
    subst hv
    have hl2:(buf.length:Int) ≤ 9223372036854775807:=by omega
    clear hg hel hBg hnS
    go_enter Tryz.func49,Tryz.ntmps49
    go_wp2
    go_quiet (fail)
    go_wp2
    go_ret
    exact ⟨by simp,_,rfl⟩
theorem tryGrow_yes (d:Nat) (c:DC) (v:DV) (w:World) (h:DecAt w d c v) (g len cap n:Nat) (hv:v.bufv=.slice (some ⟨g,0,none⟩) len cap) (hn:len + n ≤ cap) (hc:cap ≤ 9223372036854775807) :
    Calls Tryz.prog 69 #[.pointer (some ⟨d,7,none⟩),.int .i64 n] w fun en w'=>en=.returned (.tuple #[.int .i64 len,.bool true])∧w'=w.setCell ⟨d,7,none⟩ (.slice (some ⟨g,0,none⟩) (len + n) cap):=by
  have hce:=h.cell
  have hf:=h.frozen
  obtain ⟨sb,sl,snb,serr,sline,sls,soff⟩:=v
  simp only at hv
  subst hv
  clear h
  have h1:(n:Int) ≤ (cap:Int) - (len:Int):=by omega
  have h2:(len:Int) + (n:Int) ≤ (cap:Int):=by omega
  go_enter Tryz.func69,Tryz.ntmps69
  go_wp2
  go_ret2
  exact ⟨rfl,rfl⟩
theorem tryGrow_no (d:Nat) (c:DC) (v:DV) (w:World) (h:DecAt w d c v) (a:Option Addr) (len cap n:Nat) (hv:v.bufv=.slice a len cap) (hl:len ≤ cap) (hn:cap < len + n) (hc:cap ≤ 9223372036854775807) :
    Calls Tryz.prog 69 #[.pointer (some ⟨d,7,none⟩),.int .i64 n] w fun en w'=>en=.returned (.tuple #[.int .i64 0,.bool false])∧w=w':=by
  have hce:=h.cell
  have hf:=h.frozen
  obtain ⟨sb,sl,snb,serr,sline,sls,soff⟩:=v
  simp only at hv
  subst hv
  clear h
  have h1:¬ ((n:Int) ≤ (cap:Int) - (len:Int)):=by omega
  go_enter Tryz.func69,Tryz.ntmps69
  go_wp2
  go_ret2
  exact ⟨rfl,rfl⟩
end Go.Proofs.YtkjnockljapnbaaGreatDoor
namespace Go.Proofs
open Go.Shelf
def Tryz.lays137_ren:Go.Shelf.Ren:=⟨fun|137=>72|217=>86|266=>100|n=>n,fun|9=>9|5=>5|3=>3|n=>n,fun|n=>n⟩
theorem Tryz.lays137:Go.Proofs.Lays.n137 Tryz.prog Tryz.lays137_ren:={
  mixed:=by kernel_rfl
  f137:=Tryz.func72.trans (congrArg some (by kernel_rfl))
  f217:=Tryz.func86.trans (congrArg some (by kernel_rfl))
  f266:=Tryz.func100.trans (congrArg some (by kernel_rfl))
  t3:=Tryz.underlying3
  a3:=Tryz.isAgg3
  z3:=Tryz.sizeOf3
  v3:=Tryz.zeroValue3
  t5:=Tryz.underlying5
  a5:=Tryz.isAgg5
  z5:=Tryz.sizeOf5
  v5:=Tryz.zeroValue5
  t9:=Tryz.underlying9
  a9:=Tryz.isAgg9
  z9:=Tryz.sizeOf9
  v9:=Tryz.zeroValue9 }
open Go.RowKit in
theorem Tryz.strings_IndexByte (s:ByteArray) (c:Int) (w:World) :
    Calls Tryz.prog 72 #[.string s,.int .u8 c] w fun e w'=>e=.returned (.int .i64 (Lib.indexByte s.data.toList c.toNat.toUInt8))∧w'=w:=Any.strings_IndexByte Tryz.lays137 s c w
def Tryz.laysM290_ren:Go.Shelf.Ren:=⟨fun|290=>85|324=>99|n=>n,fun|37=>74|3=>3|0=>0|4=>4|20=>20|75=>55|5=>5|80=>262|9=>9|n=>n,fun|14=>2|n=>n⟩
theorem Tryz.laysM290:Go.Proofs.LaysM.n290 Tryz.prog Tryz.laysM290_ren:={
  mixed:=by kernel_rfl
  f290:=Tryz.func85.trans (congrArg some (by kernel_rfl))
  f324:=Tryz.func99.trans (congrArg some (by kernel_rfl))
  t0:=Tryz.underlying0
  a0:=Tryz.isAgg0
  z0:=Tryz.sizeOf0
  v0:=Tryz.zeroValue0
  t3:=Tryz.underlying3
  a3:=Tryz.isAgg3
  z3:=Tryz.sizeOf3
  v3:=Tryz.zeroValue3
  t4:=Tryz.underlying4
  a4:=Tryz.isAgg4
  z4:=Tryz.sizeOf4
  v4:=Tryz.zeroValue4
  t20:=Tryz.underlying20
  a20:=Tryz.isAgg20
  z20:=Tryz.sizeOf20
  v20:=Tryz.zeroValue20
  t37:=Tryz.underlying74
  a37:=Tryz.isAgg74
  z37:=Tryz.sizeOf74
  v37:=Tryz.zeroValue74
  t75:=Tryz.underlying55
  a75:=Tryz.isAgg55
  z75:=Tryz.sizeOf55
  v75:=Tryz.zeroValue55
  g14:=by kernel_rfl
  t5:=Tryz.underlying5
  a5:=Tryz.isAgg5
  z5:=Tryz.sizeOf5
  v5:=Tryz.zeroValue5
  t9:=Tryz.underlying9
  a9:=Tryz.isAgg9
  z9:=Tryz.sizeOf9
  v9:=Tryz.zeroValue9
  t80:=Tryz.underlying262
  a80:=Tryz.isAgg262
  z80:=Tryz.sizeOf262
  v80:=Tryz.zeroValue262
  i0:=by kernel_rfl
  i3:=by kernel_rfl
  i4:=by kernel_rfl
  i5:=by kernel_rfl
  i9:=by kernel_rfl
  i20:=by kernel_rfl
  i37:=by kernel_rfl
  i75:=by kernel_rfl
  i80:=by kernel_rfl
  m14:=by kernel_rfl }
open Go.RowKit in
theorem Tryz.bytes_growSlice_row (g l c n:Nat) (cur:Array Value) (w:World) (hg:w.heap[g]?=some (.cells cur 5 (0,0))) (hcs:cur.size=c) (hlc:l ≤ c) (hn:1 ≤ n) (hlim:l + n ≤ 140737488355328) (hc2:c ≤ 140737488355328) (h1:∀ v ∈ cur.toList.take l,v.oneCell'=true) :
    Calls Tryz.prog 85 #[.slice (some ⟨g,0,none⟩) l c,.int .i64 n] w fun e w'=>∃ cap2 cells,e=.returned (.slice (some ⟨w.heap.size,0,none⟩) l cap2)∧w'.heap[w.heap.size]?=some (.cells cells 5 (0,0)) ∧
      cells.size=cap2∧cells.toList.take l=cur.toList.take l∧l + n ≤ cap2∧cap2 ≤ maxLen∧Below w.heap.size w w':=Any.bytes_growSlice_row Tryz.laysM290 g l c n cur w hg hcs hlc hn hlim hc2 h1
def Tryz.lays164_ren:Go.Shelf.Ren:=⟨fun|164=>47|197=>73|239=>74|260=>87|274=>88|275=>89|n=>n,fun|9=>9|4=>4|3=>3|5=>5|0=>0|21=>21|105=>167|156=>206|49=>205|157=>207|46=>119|159=>209|162=>212|160=>210|119=>234|139=>237|138=>236|208=>241|51=>227|206=>239|n=>n,fun|11=>3|12=>4|13=>5|3=>6|4=>7|n=>n⟩
theorem Tryz.lays164:Go.Proofs.Lays.n164 Tryz.prog Tryz.lays164_ren:={
  mixed:=by kernel_rfl
  f164:=Tryz.func47.trans (congrArg some (by kernel_rfl))
  f197:=Tryz.func73.trans (congrArg some (by kernel_rfl))
  f239:=Tryz.func74.trans (congrArg some (by kernel_rfl))
  f260:=Tryz.func87.trans (congrArg some (by kernel_rfl))
  f274:=Tryz.func88.trans (congrArg some (by kernel_rfl))
  f275:=Tryz.func89.trans (congrArg some (by kernel_rfl))
  t0:=Tryz.underlying0
  a0:=Tryz.isAgg0
  z0:=Tryz.sizeOf0
  v0:=Tryz.zeroValue0
  t3:=Tryz.underlying3
  a3:=Tryz.isAgg3
  z3:=Tryz.sizeOf3
  v3:=Tryz.zeroValue3
  t4:=Tryz.underlying4
  a4:=Tryz.isAgg4
  z4:=Tryz.sizeOf4
  v4:=Tryz.zeroValue4
  t5:=Tryz.underlying5
  a5:=Tryz.isAgg5
  z5:=Tryz.sizeOf5
  v5:=Tryz.zeroValue5
  t9:=Tryz.underlying9
  a9:=Tryz.isAgg9
  z9:=Tryz.sizeOf9
  v9:=Tryz.zeroValue9
  t21:=Tryz.underlying21
  a21:=Tryz.isAgg21
  z21:=Tryz.sizeOf21
  v21:=Tryz.zeroValue21
  t46:=Tryz.underlying119
  a46:=Tryz.isAgg119
  z46:=Tryz.sizeOf119
  v46:=Tryz.zeroValue119
  t49:=Tryz.underlying205
  a49:=Tryz.isAgg205
  z49:=Tryz.sizeOf205
  v49:=Tryz.zeroValue205
  t51:=Tryz.underlying227
  a51:=Tryz.isAgg227
  z51:=Tryz.sizeOf227
  v51:=Tryz.zeroValue227
  t105:=Tryz.underlying167
  a105:=Tryz.isAgg167
  z105:=Tryz.sizeOf167
  v105:=Tryz.zeroValue167
  t119:=Tryz.underlying234
  a119:=Tryz.isAgg234
  z119:=Tryz.sizeOf234
  t138:=Tryz.underlying236
  a138:=Tryz.isAgg236
  z138:=Tryz.sizeOf236
  v138:=Tryz.zeroValue236
  t139:=Tryz.underlying237
  a139:=Tryz.isAgg237
  z139:=Tryz.sizeOf237
  v139:=Tryz.zeroValue237
  t156:=Tryz.underlying206
  a156:=Tryz.isAgg206
  z156:=Tryz.sizeOf206
  t157:=Tryz.underlying207
  a157:=Tryz.isAgg207
  z157:=Tryz.sizeOf207
  v157:=Tryz.zeroValue207
  t159:=Tryz.underlying209
  a159:=Tryz.isAgg209
  z159:=Tryz.sizeOf209
  v159:=Tryz.zeroValue209
  t160:=Tryz.underlying210
  a160:=Tryz.isAgg210
  z160:=Tryz.sizeOf210
  v160:=Tryz.zeroValue210
  t162:=Tryz.underlying212
  a162:=Tryz.isAgg212
  z162:=Tryz.sizeOf212
  v162:=Tryz.zeroValue212
  t206:=Tryz.underlying239
  a206:=Tryz.isAgg239
  z206:=Tryz.sizeOf239
  v206:=Tryz.zeroValue239
  t208:=Tryz.underlying241
  a208:=Tryz.isAgg241
  z208:=Tryz.sizeOf241
  v208:=Tryz.zeroValue241
  g3:=by kernel_rfl
  g4:=by kernel_rfl
  g11:=by kernel_rfl
  g12:=by kernel_rfl
  g13:=by kernel_rfl }
open Go.RowKit Go.Lib in
theorem Tryz.strings_EqualFold (s t:ByteArray) (w:World) (hs:s.size < 4294967281) (has:∀ (j:Nat) b,s.data.toList[j]?=some b → b.toNat < 128) (hat:∀ (j:Nat) b,t.data.toList[j]?=some b → b.toNat < 128) :
    Calls Tryz.prog 47 #[.string s,.string t] w fun e w'=>e=.returned (.bool (Lib.equalFold s.data.toList t.data.toList))∧w'=w:=Any.strings_EqualFold Tryz.lays164 s t w hs has hat
def Tryz.lays197_ren:Go.Shelf.Ren:=⟨fun|197=>73|260=>87|n=>n,fun|9=>9|21=>21|3=>3|4=>4|5=>5|105=>167|119=>234|0=>0|46=>119|139=>237|138=>236|n=>n,fun|3=>6|4=>7|n=>n⟩
theorem Tryz.lays197:Go.Proofs.Lays.n197 Tryz.prog Tryz.lays197_ren:={
  mixed:=by kernel_rfl
  f197:=Tryz.func73.trans (congrArg some (by kernel_rfl))
  f260:=Tryz.func87.trans (congrArg some (by kernel_rfl))
  t0:=Tryz.underlying0
  a0:=Tryz.isAgg0
  z0:=Tryz.sizeOf0
  v0:=Tryz.zeroValue0
  t3:=Tryz.underlying3
  a3:=Tryz.isAgg3
  z3:=Tryz.sizeOf3
  v3:=Tryz.zeroValue3
  t4:=Tryz.underlying4
  a4:=Tryz.isAgg4
  z4:=Tryz.sizeOf4
  v4:=Tryz.zeroValue4
  t5:=Tryz.underlying5
  a5:=Tryz.isAgg5
  z5:=Tryz.sizeOf5
  v5:=Tryz.zeroValue5
  t9:=Tryz.underlying9
  a9:=Tryz.isAgg9
  z9:=Tryz.sizeOf9
  v9:=Tryz.zeroValue9
  t21:=Tryz.underlying21
  a21:=Tryz.isAgg21
  z21:=Tryz.sizeOf21
  v21:=Tryz.zeroValue21
  t46:=Tryz.underlying119
  a46:=Tryz.isAgg119
  z46:=Tryz.sizeOf119
  v46:=Tryz.zeroValue119
  t105:=Tryz.underlying167
  a105:=Tryz.isAgg167
  z105:=Tryz.sizeOf167
  v105:=Tryz.zeroValue167
  t119:=Tryz.underlying234
  a119:=Tryz.isAgg234
  z119:=Tryz.sizeOf234
  t138:=Tryz.underlying236
  a138:=Tryz.isAgg236
  z138:=Tryz.sizeOf236
  v138:=Tryz.zeroValue236
  t139:=Tryz.underlying237
  a139:=Tryz.isAgg237
  z139:=Tryz.sizeOf237
  v139:=Tryz.zeroValue237
  g3:=by kernel_rfl
  g4:=by kernel_rfl }
open Go.RowKit Go.Lib in
theorem Tryz.utf8_DecodeRuneInString (s:ByteArray) (w:World) (hT:Lib.Utf8Tabs 6 7 w) :
    Calls Tryz.prog 73 #[.string s] w fun e w'=>e=.returned (.tuple #[.int .i32 (Lib.decodeGo s).1,.int .i64 (Lib.decodeGo s).2])∧Below w.heap.size w w':=Any.utf8_DecodeRuneInString Tryz.lays197 s w hT
def Tryz.lays274_ren:Go.Shelf.Ren:=⟨fun|274=>88|n=>n,fun|21=>21|162=>212|160=>210|3=>3|4=>4|46=>119|0=>0|208=>241|51=>227|206=>239|n=>n,fun|n=>n⟩
theorem Tryz.lays274:Go.Proofs.Lays.n274 Tryz.prog Tryz.lays274_ren:={
  mixed:=by kernel_rfl
  f274:=Tryz.func88.trans (congrArg some (by kernel_rfl))
  t0:=Tryz.underlying0
  a0:=Tryz.isAgg0
  z0:=Tryz.sizeOf0
  v0:=Tryz.zeroValue0
  t3:=Tryz.underlying3
  a3:=Tryz.isAgg3
  z3:=Tryz.sizeOf3
  v3:=Tryz.zeroValue3
  t4:=Tryz.underlying4
  a4:=Tryz.isAgg4
  z4:=Tryz.sizeOf4
  v4:=Tryz.zeroValue4
  t21:=Tryz.underlying21
  a21:=Tryz.isAgg21
  z21:=Tryz.sizeOf21
  v21:=Tryz.zeroValue21
  t46:=Tryz.underlying119
  a46:=Tryz.isAgg119
  z46:=Tryz.sizeOf119
  v46:=Tryz.zeroValue119
  t51:=Tryz.underlying227
  a51:=Tryz.isAgg227
  z51:=Tryz.sizeOf227
  v51:=Tryz.zeroValue227
  t160:=Tryz.underlying210
  a160:=Tryz.isAgg210
  z160:=Tryz.sizeOf210
  v160:=Tryz.zeroValue210
  t162:=Tryz.underlying212
  a162:=Tryz.isAgg212
  z162:=Tryz.sizeOf212
  v162:=Tryz.zeroValue212
  t208:=Tryz.underlying241
  a208:=Tryz.isAgg241
  z208:=Tryz.sizeOf241
  v208:=Tryz.zeroValue241 }
open Go.RowKit Go.Lib in
theorem Tryz.unicode_lookupCaseRange (T:Array CaseRow) (R oR cap:Nat) (r:Int) (w:World) (hT:CaseTab R oR T w) (hok:CaseOk T) (hn:T.size ≤ 1000000000) :
    Calls Tryz.prog 88 #[.int .i32 r,.slice (some ⟨R,oR,none⟩) T.size cap] w fun e w'=>
      e=.returned (match lookupIdx T r (T.size + 1) 0 T.size with|some i=>.pointer (some ⟨R,oR + i * 5,none⟩)|none=>.pointer none)∧w'=w:=Any.unicode_lookupCaseRange Tryz.lays274 T R oR cap r w hT hok hn
def Tryz.lays275_ren:Go.Shelf.Ren:=⟨fun|275=>89|n=>n,fun|3=>3|21=>21|160=>210|0=>0|208=>241|206=>239|4=>4|51=>227|n=>n,fun|n=>n⟩
theorem Tryz.lays275:Go.Proofs.Lays.n275 Tryz.prog Tryz.lays275_ren:={
  mixed:=by kernel_rfl
  f275:=Tryz.func89.trans (congrArg some (by kernel_rfl))
  t0:=Tryz.underlying0
  a0:=Tryz.isAgg0
  z0:=Tryz.sizeOf0
  v0:=Tryz.zeroValue0
  t3:=Tryz.underlying3
  a3:=Tryz.isAgg3
  z3:=Tryz.sizeOf3
  v3:=Tryz.zeroValue3
  t4:=Tryz.underlying4
  a4:=Tryz.isAgg4
  z4:=Tryz.sizeOf4
  v4:=Tryz.zeroValue4
  t21:=Tryz.underlying21
  a21:=Tryz.isAgg21
  z21:=Tryz.sizeOf21
  v21:=Tryz.zeroValue21
  t51:=Tryz.underlying227
  a51:=Tryz.isAgg227
  z51:=Tryz.sizeOf227
  v51:=Tryz.zeroValue227
  t160:=Tryz.underlying210
  a160:=Tryz.isAgg210
  z160:=Tryz.sizeOf210
  v160:=Tryz.zeroValue210
  t206:=Tryz.underlying239
  a206:=Tryz.isAgg239
  z206:=Tryz.sizeOf239
  v206:=Tryz.zeroValue239
  t208:=Tryz.underlying241
  a208:=Tryz.isAgg241
  z208:=Tryz.sizeOf241
  v208:=Tryz.zeroValue241 }
open Go.RowKit Go.Lib in
theorem Tryz.unicode_convertCase (c:Nat) (hc:c < 3) (r:Int) (A o:Nat) (x:CaseRow) (w:World) (hlo:(x.1:Int) ≤ r) (hhi:r ≤ (x.2.1:Int)) (hH:x.2.1 < 2147483647) (c0:w.cell? ⟨A,o,none⟩=some (.int .u32 x.1)) (cD:w.cell? ⟨A,o + 2 + c,none⟩=some (.int .i32 (x.delta c))) :
    Calls Tryz.prog 89 #[.int .i64 c,.int .i32 r,.pointer (some ⟨A,o,none⟩)] w fun e w'=>e=.returned (.int .i32 (wrap32 (convertR c r x)))∧∃ q,w'=w.drewN q:=Any.unicode_convertCase Tryz.lays275 c hc r A o x w hlo hhi hH c0 cD
def Tryz.laysGn14_ren:Go.Shelf.Ren:=⟨fun|14=>81|25=>97|26=>98|n=>n,fun|22=>202|21=>21|4=>4|0=>0|31=>226|28=>223|3=>3|32=>227|35=>229|33=>205|29=>224|38=>232|41=>246|42=>119|43=>247|n=>n,fun|n=>n⟩
theorem Tryz.laysGn14:Go.Proofs.LaysGn.n14 Tryz.prog Tryz.laysGn14_ren:={
  mixed:=by kernel_rfl
  f14:=Tryz.func81.trans (congrArg some (by kernel_rfl))
  f25:=Tryz.func97.trans (congrArg some (by kernel_rfl))
  f26:=Tryz.func98.trans (congrArg some (by kernel_rfl))
  t0:=Tryz.underlying0
  a0:=Tryz.isAgg0
  z0:=Tryz.sizeOf0
  v0:=Tryz.zeroValue0
  i0:=by kernel_rfl
  t3:=Tryz.underlying3
  a3:=Tryz.isAgg3
  z3:=Tryz.sizeOf3
  v3:=Tryz.zeroValue3
  i3:=by kernel_rfl
  t4:=Tryz.underlying4
  a4:=Tryz.isAgg4
  z4:=Tryz.sizeOf4
  v4:=Tryz.zeroValue4
  i4:=by kernel_rfl
  t21:=Tryz.underlying21
  a21:=Tryz.isAgg21
  z21:=Tryz.sizeOf21
  v21:=Tryz.zeroValue21
  i21:=by kernel_rfl
  t22:=Tryz.underlying202
  a22:=Tryz.isAgg202
  z22:=Tryz.sizeOf202
  v22:=Tryz.zeroValue202
  i22:=by kernel_rfl
  t28:=Tryz.underlying223
  a28:=Tryz.isAgg223
  z28:=Tryz.sizeOf223
  v28:=Tryz.zeroValue223
  i28:=by kernel_rfl
  t29:=Tryz.underlying224
  a29:=Tryz.isAgg224
  z29:=Tryz.sizeOf224
  v29:=Tryz.zeroValue224
  i29:=by kernel_rfl
  t31:=Tryz.underlying226
  a31:=Tryz.isAgg226
  z31:=Tryz.sizeOf226
  v31:=Tryz.zeroValue226
  i31:=by kernel_rfl
  t32:=Tryz.underlying227
  a32:=Tryz.isAgg227
  z32:=Tryz.sizeOf227
  v32:=Tryz.zeroValue227
  i32:=by kernel_rfl
  t33:=Tryz.underlying205
  a33:=Tryz.isAgg205
  z33:=Tryz.sizeOf205
  v33:=Tryz.zeroValue205
  i33:=by kernel_rfl
  t35:=Tryz.underlying229
  a35:=Tryz.isAgg229
  z35:=Tryz.sizeOf229
  v35:=Tryz.zeroValue229
  i35:=by kernel_rfl
  t38:=Tryz.underlying232
  a38:=Tryz.isAgg232
  z38:=Tryz.sizeOf232
  v38:=Tryz.zeroValue232
  i38:=by kernel_rfl
  t41:=Tryz.underlying246
  a41:=Tryz.isAgg246
  z41:=Tryz.sizeOf246
  v41:=Tryz.zeroValue246
  i41:=by kernel_rfl
  t42:=Tryz.underlying119
  a42:=Tryz.isAgg119
  z42:=Tryz.sizeOf119
  v42:=Tryz.zeroValue119
  i42:=by kernel_rfl
  t43:=Tryz.underlying247
  a43:=Tryz.isAgg247
  z43:=Tryz.sizeOf247
  v43:=Tryz.zeroValue247
  i43:=by kernel_rfl }
open Go.RowKit Go.Lib in
theorem Tryz.unicode_Is_any (Tb oT:Nat) (T:RTab) (r:Int) (w:World) (hlo:-2147483648 ≤ r) (hhi:r ≤ 2147483647) (hA:RTabAt Tb oT T w) (hok:RTabOk T) :
    Calls Tryz.prog 81 #[.pointer (some ⟨Tb,oT,none⟩),.int .i32 r] w fun e w'=>e=.returned (.bool (isGo T r))∧Below w.heap.size w w':=Any.unicode_Is_any Tryz.laysGn14 Tb oT T r w hlo hhi hA hok
end Go.Proofs
namespace Go.Proofs.YtkjnockljapnbaaGreatDoor
open Go Go.RowKit
structure GrowPost (x:Cx) (c:DC) (w:World) (v:DV) (buf:Bs) (n:Nat) (w':World) (g cap:Nat) (arr:Array Value):Prop where
  dec:DecAt w' x.d c { v with bufv:=.slice (some ⟨g,0,none⟩) (buf.length + n) cap }
  blk:Blk w' g arr 5
  sz:arr.size=cap
  cp:buf.length + n ≤ cap
  cm:cap ≤ 9223372036854775807
  new:w.heap.size ≤ g
  el:∀ j,j < buf.length → arr[j]?=some (.int .u8 (buf.getD j 0).toNat)
  mod:Mod (fun k=>k=x.d) w w'
theorem u8all:(Tryz.prog.info? 5).map (fun i=>(i.zero,i.size,i.bytes))=some (some (.int .u8 0),1,1):=by kernel_rfl
theorem mk64 (n:Nat) (hn:n ≤ 64) (w:World):(Instr.makeSlice 74 (.int .i64 n) (.int .i64 64)).run Tryz.prog w=.ok (.slice (some ⟨w.heap.size,0,none⟩) n 64) (w.alloc (.cells (madeCells #[.int .u8 0] 64) 5)):=by
  obtain ⟨i,hi,hz,h1,h2⟩:=info_parts u8all
  have:=run_make w 74 5 i (.int .u8 0) Tryz.underlying74 hi hz .i64 .i64 n 64 (by omega) (by omega) (by rw [h2];omega) (by omega)
  rw [h1] at this
  simpa [Value.cells] using this
theorem grow_nil (x:Cx) (hx:x.Ok) (c:DC) (w:World) (v:DV) (rest:Bs) (e:Option EK) (h:RdS x c w v rest e []) (hv:v.bufv=.slice none 0 0) (n:Nat) (hn:1 ≤ n) (hn2:n ≤ 64) :
    Calls Tryz.prog 70 #[.pointer (some ⟨x.d,7,none⟩),.int .i64 n] w fun en w'=>en=.returned (.int .i64 0)∧∃ g cap arr,GrowPost x c w v [] n w' g cap arr:=by
  have hc:=h.dec.cell
  have hf:=h.dec.frozen
  have hlen:=Lib.hid (len_c x c w v rest e [] h)
  have HX:=Lib.hid hx
  have H:=Lib.hid h
  have htry:=Lib.hid (fun k=>tryGrow_no x.d c v (w.drewN k) h.dec none 0 0 n hv (by omega) (by omega) (by omega))
  obtain ⟨sb,sl,snb,serr,sline,sls,soff⟩:=v
  simp only at hv
  subst hv
  clear h hx
  have h1:(n:Int) ≤ 64:=by omega
  go_enter Tryz.func70,Tryz.ntmps70
  go_wp2_with fail
  refine hlen.out.mono ?_
  rintro e1 w1 ⟨rfl,k,rfl⟩
  go_wp2_with fail
  refine (htry.out _).mono ?_
  rintro e2 w2 ⟨rfl,rfl⟩
  have hc':∀ o,(w.drewN k).cell? ⟨x.d,o,none⟩=(dcells c ⟨.slice none 0 0,sl,snb,serr,sline,sls,soff⟩)[o]?:=hc
  have hf':∀ o,(w.drewN k).frozen? ⟨x.d,o,none⟩=false:=hf
  have heql:=fun (w:World) (a:Option Addr) (n c:Nat)=>Lib.run_eql_slice_nil (P:=Tryz.prog) w 74 5 a n c 0 0 Tryz.underlying74
  have hmk:=mk64 n hn2
  have hda:DecAt ((w.drewN k).alloc (.cells (madeCells #[.int .u8 0] 64) 5)) x.d c ⟨.slice none 0 0,sl,snb,serr,sline,sls,soff⟩:=Blk.alloc (show Blk (w.drewN k) _ _ _ from H.out.dec) _
  have hca:=hda.cell
  have hfa:=hda.frozen
  have HDA:=Lib.hid hda
  clear hda
  go_wp2
  go_ret
  have hm:=((((Mod.refl (fun k=>k=x.d) w).drewN k).alloc (.cells (madeCells #[.int .u8 0] 64) 5)).setCell (p:=⟨x.d,7,none⟩) (Or.inl rfl) (.slice (some ⟨w.heap.size,0,none⟩) n 64))
  have hgd:w.heap.size ≠ x.d:=fun h=>by have:=H.out.dec.lt;omega
  refine ⟨rfl,w.heap.size,64,madeCells #[.int .u8 0] 64,?_,?_,size_madeCells _ _,by simp;omega,by omega,Nat.le_refl _,fun j hj=>by simp at hj,hm⟩
  · have:=HDA.out.set 7 (.slice (some ⟨w.heap.size,0,none⟩) n 64)
    rw [show ([]:Bs).length + n=n by simp]
    exact this
  · exact (show Blk ((w.drewN k).alloc (.cells (madeCells #[.int .u8 0] 64) 5)) w.heap.size _ _ from Blk.new (w.drewN k) _ _).set_ne hgd _
end Go.Proofs.YtkjnockljapnbaaGreatDoor
