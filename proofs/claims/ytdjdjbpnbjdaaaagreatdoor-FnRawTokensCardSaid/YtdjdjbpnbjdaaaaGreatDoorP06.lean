/- Part of the proof that laws.FnRawTokens returns true for every argument. No conditions. -/
import Derived.Test.YtdjdjbpnbjdaaaaGreatDoorP05
import Derived.Shelf.Spec.DecodeRune
import Derived.Test.YtdjdjbpnbjdaaaaGreatDoorP04
import Derived.Shelf.Unicode.PredsPay
import Derived.Lib.SlBytesRow
import Derived.Test.YtdjdjbpnbjdaaaaGreatDoorP02
import Derived.Shelf.Pu.Clone
set_option linter.all false
set_option maxHeartbeats 8000000
set_option maxRecDepth 100000
namespace Go.Proofs.YtdjdjbpnbjdaaaaGreatDoor
open Go Go.RowKit Tryz
theorem LG (b:UInt8):jZ b=true↔(65≤b.toNat∧b.toNat≤90)∨(97≤b.toNat∧b.toNat≤122)∨(48≤b.toNat∧b.toNat≤57)∨b.toNat=95∨b.toNat=58∨b.toNat=46∨b.toNat=45:=by
 simp only [jZ,Bool.or_eq_true,Bool.and_eq_true,decide_eq_true_eq,beq_iff_eq,UInt8.le_iff_toNat_le,←UInt8.toNat_inj]
 have e1:(65:UInt8).toNat=65:=rfl
 have e2:(90:UInt8).toNat=90:=rfl
 have e3:(97:UInt8).toNat=97:=rfl
 have e4:(122:UInt8).toNat=122:=rfl
 have e5:(48:UInt8).toNat=48:=rfl
 have e6:(57:UInt8).toNat=57:=rfl
 have e7:(95:UInt8).toNat=95:=rfl
 have e8:(58:UInt8).toNat=58:=rfl
 have e9:(46:UInt8).toNat=46:=rfl
 have e0:(45:UInt8).toNat=45:=rfl
 rw [e1,e2,e3,e4,e5,e6,e7,e8,e9,e0]
 omega
theorem C3 (b:UInt8) (w:World):Calls prog 110 #[.int .u8 b.toNat] w fun e w'=>e=.returned (.bool (jZ b))∧w=w':=by
 have hA:=Lib.hid (LG b)
 obtain ⟨n,hn⟩:∃ n,n=b.toNat:=⟨_,rfl⟩
 rw [←hn] at hA ⊢
 have HN:=Lib.hid hn
 clear hn
 have r8:n<45∨n=45∨n=46∨n=47∨(48≤n∧n≤57)∨n=58∨(59≤n∧n≤64)∨(65≤n∧n≤90)∨(91≤n∧n≤94)∨n=95∨n=96∨(97≤n∧n≤122)∨123≤n:=by omega
 rcases r8 with h|h|h|h|h|h|h|h|h|h|h|h|h
 all_goals
  have HH:=Lib.hid h
  first|have:(65:Int)≤(n:Int):=by omega|have:¬ ((65:Int)≤(n:Int)):=by omega
  first|have:(n:Int)≤90:=by omega|have:¬ ((n:Int)≤90):=by omega
  first|have:(97:Int)≤(n:Int):=by omega|have:¬ ((97:Int)≤(n:Int)):=by omega
  first|have:(n:Int)≤122:=by omega|have:¬ ((n:Int)≤122):=by omega
  first|have:(48:Int)≤(n:Int):=by omega|have:¬ ((48:Int)≤(n:Int)):=by omega
  first|have:(n:Int)≤57:=by omega|have:¬ ((n:Int)≤57):=by omega
  first|have:(((n:Int))==(95))=true:=by (simp;omega)|have:(((n:Int))==(95))=false:=by (simp;omega)
  first|have:(((n:Int))==(58))=true:=by (simp;omega)|have:(((n:Int))==(58))=false:=by (simp;omega)
  first|have:(((n:Int))==(46))=true:=by (simp;omega)|have:(((n:Int))==(46))=false:=by (simp;omega)
  first|have:(((n:Int))==(45))=true:=by (simp;omega)|have:(((n:Int))==(45))=false:=by (simp;omega)
  clear h
  go_enter func110,ntmps110
  go_wp2
  go_ret
  refine ⟨?_,rfl⟩
  have:=HH.out
  first
   | (rw [show jZ b=true from hA.out.2 (by omega)];rfl)
   | (rw [show jZ b=false from by
     rw [←Bool.not_eq_true];intro hh
     have:=hA.out.1 hh;omega];rfl)
theorem AT {b:UInt8} (h:(128:Int)≤(b.toNat:Int)):cP b=true:=by
 have h1:(128:UInt8).toNat=128:=rfl
 simp only [cP,Bool.or_eq_true,decide_eq_true_eq,UInt8.le_iff_toNat_le,h1]
 exact Or.inl (by omega)
theorem pL {b:UInt8} (h:(b.toNat:Int)<128):cP b=jZ b:=by
 have h1:(128:UInt8).toNat=128:=rfl
 have:¬ (128≤b):=by rw [UInt8.le_iff_toNat_le,h1];omega
 simp [cP,this]
theorem cK.s0 {x:Cx} {w w1 w':World} {v v1 v':DV} (h:cK x w v w1 v1) (hm:aK x.S0 w1 w') (hb:v'.bufv=v1.bufv):cK x w v w' v':=h.trans (hm.stp hb)
theorem C4 (x:Cx) (hx:x.Ok) (c:DC) (dR:iU x c) (w:World) (v:DV) (rest:Bs) (e:Option EK) (buf:Bs) (h:bX x c w v rest e buf) (kY:buf.length ≤ 10000000000000) :
    Calls prog 89 #[.pointer (some ⟨x.d,0,none⟩)] w fun en w'=>∃ v',cK x w v w' v' ∧
      (((aD rest).2=[]∧en=.returned (.bool false)∧jP x c w' v' (bW x.o.fails)) ∨
       ((aD rest).2 ≠ []∧(aD rest).1=[]∧en=.returned (.bool false)∧bX x c w' v' rest none buf) ∨
       ((aD rest).2 ≠ []∧(aD rest).1 ≠ []∧en=.returned (.bool true)∧bX x c w' v' (aD rest).2 none (buf ++ (aD rest).1))):=by
  have HX:=Lib.hid hx
  have HD:=Lib.hid dR
  have H:=Lib.hid h
  have vC:rest.length ≤ 1000000000:=Nat.le_trans (h.suf.length_le) hx.len
  clear h hx dR
  cases rest with
  | nil=>
    have cN:=Lib.hid (bJ x HX.out c HD.out w v e buf H.out)
    go_enter func89,ntmps89
    go_wp2_with fail
    refine cN.out.mono ?_
    rintro e1 w1 ⟨rfl,hq⟩
    have HQ:=Lib.hid hq
    clear hq
    go_wp2
    go_ret
    obtain ⟨v1,h1,bP,eA⟩:=HQ.out
    exact ⟨v1,eA.stp bP,Or.inl ⟨rfl,rfl,h1⟩⟩
  | cons b r=>
    have cN:=Lib.hid (bH x HX.out c HD.out w v b r e buf H.out)
    have kC:=Lib.hid H.out.suf
    have lC:=Lib.hid (C3 b)
    by_cases lD:cP b=true
    · have iZ:((128:Int) ≤ (b.toNat:Int)) ∨ ((b.toNat:Int) < 128∧jZ b=true):=by
        rcases Int.lt_or_le (b.toNat:Int) 128 with h|h
        · exact Or.inr ⟨h,by rw [← pL h];exact lD⟩
        · exact Or.inl h
      have C5:=Lib.hid (show (aD (b :: r)).1=b :: (aD r).1 by simp [aD,lD])
      have qP:=Lib.hid (show (aD (b :: r)).2=(aD r).2 by simp [aD,lD])
      clear lD
      have o4:r.length ≤ 1000000000:=by simp at vC;omega
      have YG:=Lib.hid o4
      have PJ:=Lib.hid kY
      clear vC kY o4
      rcases iZ with Zh|⟨hlo,a3c⟩
      all_goals
        go_enter func89,ntmps89
        go_wp2_with fail
        refine cN.out.mono ?_
        rintro e1 w1 ⟨rfl,v1,h1,iL,bP,eA,iR⟩
        have mZ:=Lib.hid (gG x HX.out c w1 v1 r none buf h1 b (by have:=PJ.out;omega))
        have fV:=Lib.hid bP
        have oJ:=Lib.hid eA
        clear h1 bP eA iR iL cN
        go_wp2_with fail
        try
          refine (lC.out _).mono ?_
          rintro e2 w2 ⟨rfl,rfl⟩
          go_wp2_with fail
        refine mZ.out.mono ?_
        rintro e3 w3 ⟨rfl,v3,h3,O8,R1⟩
        have wH:=Lib.hid ((oJ.out.stp fV.out).trans R1)
        have H3:=Lib.hid h3
        clear h3 O8 R1 mZ fV oJ
        go_wp2
        go_loopg [2,3] r.length (fun k _ _ wr=>∃ v4 r4 pre,r4.length=k∧cK x w v wr v4∧bX x c wr v4 r4 none (buf ++ pre)∧pre.length + r4.length=r.length + 1∧(aD (b :: r)).1=pre ++ (aD r4).1∧(aD (b :: r)).2=(aD r4).2)
        case atStart=>exact ⟨v3,r,[b],rfl,wH.out,H3.out,by simp;omega,C5.out,qP.out⟩
        case round=>
          obtain ⟨v4,r4,pre,hk,YH,h4,FF,qH,mG⟩:=hrel
          have HK:=Lib.hid hk
          have nM:=Lib.hid YH
          have Xs:=Lib.hid FF
          have KO:=Lib.hid qH
          have F7:=Lib.hid mG
          have H4:=Lib.hid h4
          clear hk YH FF qH mG h4
          cases r4 with
          | nil=>
            have cN:=Lib.hid (bJ x HX.out c HD.out wr v4 none _ H4.out)
            go_wp2_with fail
            refine cN.out.mono ?_
            rintro e1 w1 ⟨rfl,hq⟩
            have HQ:=Lib.hid hq
            clear hq
            go_wp2
            (try simp only [Exit.inBlock,Exit.then])
            go_ret
            obtain ⟨v5,h5,jM,fL⟩:=HQ.out
            exact ⟨v5,nM.out.s0 fL jM,Or.inl ⟨F7.out,rfl,h5⟩⟩
          | cons b4 r5=>
            have cN:=Lib.hid (bH x HX.out c HD.out wr v4 b4 r5 none _ H4.out)
            have kC:=Lib.hid H4.out.suf
            have Zq:=Lib.hid (C3 b4)
            by_cases lD:cP b4=true
            · have iZ:((128:Int) ≤ (b4.toNat:Int)) ∨ ((b4.toNat:Int) < 128∧jZ b4=true):=by
                rcases Int.lt_or_le (b4.toNat:Int) 128 with h|h
                · exact Or.inr ⟨h,by rw [← pL h];exact lD⟩
                · exact Or.inl h
              have a3d:=Lib.hid (show (aD (b4 :: r5)).1=b4 :: (aD r5).1 by simp [aD,lD])
              have a3e:=Lib.hid (show (aD (b4 :: r5)).2=(aD r5).2 by simp [aD,lD])
              clear lD
              rcases iZ with a5R|⟨Zr,Zs⟩
              all_goals
                go_wp2_with fail
                refine cN.out.mono ?_
                rintro e1 w1 ⟨rfl,v5,h5,PK,jM,fL,OL⟩
                have mZ:=Lib.hid (gG x HX.out c w1 v5 r5 none _ h5 b4 (by
                  have h1:=PJ.out
                  have h2:=Xs.out
                  have h3:=YG.out
                  simp at h2 ⊢;omega))
                have vQ:=Lib.hid jM
                have pY:=Lib.hid fL
                clear h5 jM fL OL PK cN
                go_wp2_with fail
                try
                  refine (Zq.out _).mono ?_
                  rintro e2 w2 ⟨rfl,rfl⟩
                  go_wp2_with fail
                refine mZ.out.mono ?_
                rintro e3 w3 ⟨rfl,v6,h6,R2,yX⟩
                have nD:=Lib.hid ((nM.out.s0 pY.out vQ.out).trans yX)
                have H6:=Lib.hid h6
                clear h6 R2 yX mZ vQ pY
                go_wp2
                go_roundg r5.length
                case measure=>have:=HK.out;simp at this;omega
                case rel=>exact ⟨v6,r5,pre ++ [b4],rfl,nD.out,by rw [← List.append_assoc];exact H6.out,by have:=Xs.out;simp at this ⊢;omega,by rw [KO.out,a3d.out];simp,by rw [F7.out,a3e.out]⟩
            · have Zr:(b4.toNat:Int) < 128:=by
                rcases Int.lt_or_le (b4.toNat:Int) 128 with h|h
                · exact h
                · exact absurd (AT h) lD
              have Zs:jZ b4=false:=by rw [← pL Zr];simpa using lD
              have Nf:=Lib.hid (show aD (b4 :: r5)=([],b4 :: r5) by simp [aD,lD])
              clear lD
              go_wp2_with fail
              refine cN.out.mono ?_
              rintro e1 w1 ⟨rfl,v5,h5,PK,jM,fL,OL⟩
              have iW:=Lib.hid (gZ x HX.out c w1 v5 b4 r5 _ h5 PK kC.out)
              have vQ:=Lib.hid jM
              have pY:=Lib.hid fL
              clear h5 jM fL OL PK cN
              go_wp2_with fail
              refine (Zq.out _).mono ?_
              rintro e2 w2 ⟨rfl,rfl⟩
              go_wp2_with fail
              refine iW.out.mono ?_
              rintro e3 w3 ⟨rfl,hq⟩
              have HQ:=Lib.hid hq
              clear hq iW
              go_wp2
              (try simp only [Exit.inBlock,Exit.then])
              go_ret
              obtain ⟨v6,h6,R2,xK,eQ,hz6⟩:=HQ.out
              have LH:(aD (b :: r)).2=b4 :: r5:=by rw [F7.out,Nf.out]
              have I3:(aD (b :: r)).1=pre:=by rw [KO.out,Nf.out];simp
              refine ⟨v6,(nM.out.s0 pY.out vQ.out).s0 eQ xK,Or.inr (Or.inr ⟨by rw [LH];simp,by rw [C5.out];simp,rfl,?_⟩)⟩
              rw [LH,I3];exact h6
    · have hlo:(b.toNat:Int) < 128:=by
        rcases Int.lt_or_le (b.toNat:Int) 128 with h|h
        · exact h
        · exact absurd (AT h) lD
      have a3c:jZ b=false:=by rw [← pL hlo];simpa using lD
      have oK:=Lib.hid (show aD (b :: r)=([],b :: r) by simp [aD,lD])
      clear lD
      go_enter func89,ntmps89
      go_wp2_with fail
      refine cN.out.mono ?_
      rintro e1 w1 ⟨rfl,v1,h1,iL,bP,eA,iR⟩
      have iW:=Lib.hid (gZ x HX.out c w1 v1 b r buf h1 iL kC.out)
      have fV:=Lib.hid bP
      have oJ:=Lib.hid eA
      clear h1 bP eA iR iL cN
      go_wp2_with fail
      refine (lC.out _).mono ?_
      rintro e2 w2 ⟨rfl,rfl⟩
      go_wp2_with fail
      refine iW.out.mono ?_
      rintro e3 w3 ⟨rfl,hq⟩
      have HQ:=Lib.hid hq
      clear hq iW
      go_wp2
      go_ret
      obtain ⟨v3,h3,O8,l9,cD,Nb⟩:=HQ.out
      exact ⟨v3,(oJ.out.stp fV.out).s0 cD l9,Or.inr (Or.inl ⟨by rw [oK.out];simp,by rw [oK.out],rfl,h3⟩)⟩
theorem eE {p:Prop} (H:p:=by first|kernel_rfl|(intro w;kernel_rfl)|(intro w;rfl)|decide):p:=H
def Rc:Go.Shelf.Ren:=⟨fun|32=>93|49=>114|n=>n,
 fun|0=>0|3=>3|4=>4|5=>5|21=>21|25=>169|30=>77|33=>184|66=>250|68=>252|69=>253|n=>n,
 fun|2=>6|3=>7|n=>n⟩
theorem Gx:Go.Proofs.Lays7.n32 prog Rc:={
 mixed:=eE,
 f32:=eE,
 f49:=eE,
 t0:=eE,
 a0:=eE,
 z0:=eE,
 v0:=eE,
 i0:=eE,
 t3:=eE,
 a3:=eE,
 z3:=eE,
 v3:=eE,
 i3:=eE,
 t4:=eE,
 a4:=eE,
 z4:=eE,
 v4:=eE,
 i4:=eE,
 t5:=eE,
 a5:=eE,
 z5:=eE,
 v5:=eE,
 i5:=eE,
 t21:=eE,
 a21:=eE,
 z21:=eE,
 v21:=eE,
 i21:=eE,
 t25:=eE,
 a25:=eE,
 z25:=eE,
 v25:=eE,
 i25:=eE,
 t30:=eE,
 a30:=eE,
 z30:=eE,
 v30:=eE,
 i30:=eE,
 t33:=eE,
 a33:=eE,
 z33:=eE,
 v33:=eE,
 i33:=eE,
 t66:=eE,
 a66:=eE,
 z66:=eE,
 t68:=eE,
 a68:=eE,
 z68:=eE,
 v68:=eE,
 i68:=eE,
 t69:=eE,
 a69:=eE,
 z69:=eE,
 v69:=eE,
 i69:=eE,
 g2:=eE,
 g3:=eE }
theorem I4 (s:ByteArray) (b off cap:Nat) (w:World) (hT:Lib.Utf8Tabs 6 7 w) (hp:∀ j,j<s.size→w.cell? ⟨b,off+j,none⟩=some (.int .u8 (s.get! j).toNat)) :
  Calls prog 93 #[.slice (some ⟨b,off,none⟩) s.size cap] w fun e w'=>e=.returned (.tuple #[.int .i32 (Lib.decodeGo s).1,.int .i64 (Lib.decodeGo s).2])∧Below w.heap.size w w':=
 Any7.utf8_DecodeRune Gx s b off cap w hT hp
def wX (P:Program) (ops:Array Oper):List Oper→Act→World→Option (Act×World)
 | [],a,w=>some (a,w)
 | o::l,a,w=>
  if Region.wanted o (yielded ops a.tmps) then
   match (execOp a.eval o).run P w with
   | .ok (.value v) w'=>wX P ops l (a.put o.dst v) w'
   | .ok .skip w'=>wX P ops l (a.put o.dst undef) w'
   | _=>none
  else wX P ops l (a.put o.dst undef) w
theorem sA {P:Program} {ops:Array Oper} {Q:Exit→Act→World→Prop}:∀ (l:List Oper) (a:Act) (w:World) (r:Act×World),wX P ops l a w=some r→Q .normal r.1 r.2→wpList P ops Q l a w
 | [],a,w,r,h,hq=>by simp only [wX,oY] at h;subst h;exact hq
 | o::l,a,w,r,h,hq=>by
  unfold wX at h
  unfold wpList
  split at h
  ·rename_i hw
   rw [if_pos hw]
   refine Or.inl ?_
   unfold Oper.wp
   generalize (execOp a.eval o).run P w=res at *
   cases res with
   | ok n w'=>
    cases n<;>simp only [Oper.upon]<;>simp only [reduceCtorEq] at h
    ·exact sA l _ _ r h hq
    ·exact sA l _ _ r h hq
   | halt x w'=>simp only [reduceCtorEq] at h
  ·rename_i hw
   rw [if_neg hw]
   exact sA l _ _ r h hq
def fX (P:Program):Code→Act→World→Option (Bool×Act×World)
 | .skip,a,w=>some (false,a,w)
 | .region _ ops false,a,w=>(wX P ops ops.toList a w).map fun r=>(false,r.1,r.2)
 | .seq x y,a,w=>match fX P x a w with
  | some (false,a',w')=>fX P y a' w'
  | r=>r
 | .ret,a,w=>some (true,a,w)
 | _,_,_=>none
theorem I5 {P:Program}:∀ (c:Code) (Q:Exit→Act→World→Prop) (a:Act) (w:World) (r:Bool×Act×World),fX P c a w=some r→Q (if r.1 then .ret else .normal) r.2.1 r.2.2→c.wp P Q a w
 | .skip,Q,a,w,r,h,hq=>by simp only [fX,oY] at h;subst h;exact wp_skip (by simpa using hq)
 | .ret,Q,a,w,r,h,hq=>by simp only [fX,oY] at h;subst h;exact wp_ret (by simpa using hq)
 | .region id ops false,Q,a,w,r,h,hq=>by
  simp only [fX,Option.map_eq_some_iff] at h
  obtain ⟨s,hs,rfl⟩:=h
  have:=sA (Q:=Q) ops.toList a w s hs (by simpa using hq)
  exact wp_region_list this
 | .seq x y,Q,a,w,r,h,hq=>by
  unfold fX at h
  split at h
  ·rename_i a' w' hx
   exact wp_seq (I5 x _ a w _ hx (by simpa [Exit.then] using I5 y Q a' w' r h hq))
  ·rename_i hx
   obtain ⟨b,a',w'⟩:=r
   cases b with
   | false=>exact absurd h (hx _ _)
   | true=>exact wp_seq (I5 x _ a w _ h (by simpa [Exit.then] using hq))
 | .region id ops true,Q,a,w,r,h,hq=>by simp [fX] at h
 | .cond ..,_,_,_,_,h,_=>by simp [fX] at h
 | .block ..,_,_,_,_,h,_=>by simp [fX] at h
 | .loop ..,_,_,_,_,h,_=>by simp [fX] at h
 | .rangeFunc ..,_,_,_,_,h,_=>by simp [fX] at h
 | .exit ..,_,_,_,_,h,_=>by simp [fX] at h
 | .scope ..,_,_,_,_,h,_=>by simp [fX] at h
 | .label ..,_,_,_,_,h,_=>by simp [fX] at h
 | .goto ..,_,_,_,_,h,_=>by simp [fX] at h
 | .refuse ..,_,_,_,_,h,_=>by simp [fX] at h
theorem F8 {P:Program} {f:FuncId} {fn:Func} {c:Code} {args:Array Value} {w w':World} {v:Value} (t:Tmp) (hf:P.funcs[f]?=some fn) (hb:fn.body=some c) (bR:fn.results=#[.tmp t])
  (h:(fX P c { tmps:=args++Array.replicate (fn.ntmps-args.size) undef,defers:=[] } w).map (fun r=>(r.1,r.2.1.tmps.getD t undef,r.2.1.defers.isEmpty,r.2.2))=some (true,v,true,w')) :
  Calls P f args w fun e w''=>e=.returned v∧w''=w':=by
 rw [Option.map_eq_some_iff] at h
 obtain ⟨⟨b,a,w1⟩,h1,h2⟩:=h
 simp only [cC] at h2
 obtain ⟨rfl,h2,h3,rfl⟩:=h2
 refine calls_of_wp hf hb (I5 c _ _ w _ h1 ?_)
 simp only [if_true]
 exact bodyPost_ret (results_tmp bR _ _ _) (by simpa using h3) ⟨by rw [h2],rfl⟩
def mU (T:Array Lib.Rg):Array Value:=(T.toList.flatMap fun r=>[Value.int .u16 r.1,.int .u16 r.2.1,.int .u16 r.2.2]).toArray
def qQ (T:Lib.RTab) (w:World):World:=(w.alloc (.cells (mU T.r16) 245)).alloc (.cells #[.slice (some ⟨w.heap.size,0,none⟩) T.r16.size T.r16.size,.slice none 0 0,.int .i64 0] 242)
theorem Gy (w:World):Calls prog 112 #[] w fun e w'=>e=.returned (.pointer (some ⟨(w.alloc (.cells (mU jO.r16) 245)).heap.size,0,none⟩))∧w'=qQ jO w:=
 F8 0 func112 rfl rfl (by kernel_rfl)
theorem YI (w:World):Calls prog 113 #[] w fun e w'=>e=.returned (.pointer (some ⟨(w.alloc (.cells (mU j9.r16) 245)).heap.size,0,none⟩))∧w'=qQ j9 w:=
 F8 0 func113 rfl rfl (by kernel_rfl)
theorem C6:∀ (T:List Lib.Rg) (i:Nat),i<T.length→∀ j,j<3→(T.flatMap fun r=>[Value.int .u16 r.1,.int .u16 r.2.1,.int .u16 r.2.2])[i*3+j]?=([Value.int .u16 (T.getD i (0,0,0)).1,.int .u16 (T.getD i (0,0,0)).2.1,.int .u16 (T.getD i (0,0,0)).2.2])[j]?
 | [],i,hi,_,_=>by simp at hi
 | r::T,0,_,j,hj=>by
  simp only [List.flatMap_cons,Nat.zero_mul,Nat.zero_add]
  rw [List.getElem?_append_left (by simpa using hj)]
  simp
 | r::T,i+1,hi,j,hj=>by
  simp only [List.flatMap_cons]
  rw [List.getElem?_append_right (by simp;omega),show (i+1)*3+j-[Value.int .u16 r.1,.int .u16 r.2.1,.int .u16 r.2.2].length=i*3+j by simp;omega,C6 T i (by simpa using hi) j hj]
  simp
theorem YJ (T:Lib.RTab) (F9:T.r32=#[]) (a3f:T.off=0) (w:World):Lib.RTabAt (w.alloc (.cells (mU T.r16) 245)).heap.size 0 T (qQ T w):=by
 have h1:aJ (qQ T w) (w.alloc (.cells (mU T.r16) 245)).heap.size #[.slice (some ⟨w.heap.size,0,none⟩) T.r16.size T.r16.size,.slice none 0 0,.int .i64 0] 242:=aJ.new _ _ _
 have h2:aJ (qQ T w) w.heap.size (mU T.r16) 245:=(aJ.new w (mU T.r16) _).alloc _
 refine ⟨some ⟨w.heap.size,0,none⟩,none,w.heap.size,0,T.r16.size,0,0,0,by rw [h1.cell];rfl,by rw [h1.cell,F9];rfl,by rw [h1.cell,a3f];rfl,fun _=>rfl,fun h=>by rw [F9] at h;simp at h,?_,fun i hi=>by rw [F9] at hi;simp at hi,Nat.le_refl _⟩
 intro i hi
 have hi':i<T.r16.toList.length:=by simpa using hi
 have e:=fun j hj=>C6 T.r16.toList i hi' j hj
 have g:T.r16.toList.getD i (0,0,0)=T.r16.getD i (0,0,0):=by simp [Array.getD,List.getD_eq_getElem?_getD,hi]
 rw [g] at e
 refine ⟨?_,?_,?_⟩
 ·rw [h2.cell];have:=e 0 (by omega);simpa [mU] using this
 ·rw [h2.cell];have:=e 1 (by omega);simpa [mU,Nat.add_assoc] using this
 ·rw [h2.cell];have:=e 2 (by omega);simpa [mU,Nat.add_assoc] using this
theorem B2 (B:Nat) (T:Array Lib.Rg) (h:T.toList.all (fun r=>decide (r.1<B)&&decide (r.2.1<B)&&decide (r.2.2<B)&&decide (1≤r.2.2))=true):Lib.RgOk B T:=by
 intro i hi
 have hm:T.getD i (0,0,0)∈T.toList:=by simp [Array.getD,hi]
 have:=List.all_eq_true.1 h _ hm
 simp only [Bool.and_eq_true,decide_eq_true_eq] at this
 exact ⟨this.1.1.1,this.1.1.2,this.1.2,this.2⟩
theorem YK:Lib.RTabOk jO:=⟨B2 _ _ (by kernel_rfl),B2 _ _ rfl,by show (jO.r16.size≤_);rw [show jO.r16.size=190 by kernel_rfl];omega,by show (0:Nat)≤_;omega,by show (0:Nat)<_;omega,by show (0:Nat)≤_;omega⟩
theorem T7:Lib.RTabOk j9:=⟨B2 _ _ (by kernel_rfl),B2 _ _ rfl,by show (j9.r16.size≤_);rw [show j9.r16.size=112 by kernel_rfl];omega,by show (0:Nat)≤_;omega,by show (0:Nat)<_;omega,by show (0:Nat)≤_;omega⟩
theorem tU (T:Lib.RTab) (w:World):Below w.heap.size w (qQ T w):=((Below.refl w.heap.size w).alloc (Nat.le_refl _) _).alloc (by simp) _
theorem Gz (w:World):Calls prog 112 #[] w fun e w'=>∃ Tb,e=.returned (.pointer (some ⟨Tb,0,none⟩))∧Lib.RTabAt Tb 0 jO w'∧Below w.heap.size w w':=
 (Gy w).mono fun e w' ⟨he,hw⟩=>⟨_,he,by rw [hw];exact YJ _ rfl rfl w,by rw [hw];exact tU _ w⟩
theorem YL (w:World):Calls prog 113 #[] w fun e w'=>∃ Tb,e=.returned (.pointer (some ⟨Tb,0,none⟩))∧Lib.RTabAt Tb 0 j9 w'∧Below w.heap.size w w':=
 (YI w).mono fun e w' ⟨he,hw⟩=>⟨_,he,by rw [hw];exact YJ _ rfl rfl w,by rw [hw];exact tU _ w⟩
def bG (w:World) (b off:Nat) (l:Bs):Prop:=∀ j,j<l.length→w.cell? ⟨b,off+j,none⟩=some (.int .u8 (l.getD j 0).toNat)
theorem bG.below {w w':World} {b off:Nat} {l:Bs} (h:bG w b off l) (hb:Below w.heap.size w w'):bG w' b off l:=fun j hj=>cell_below hb (h j hj)
theorem bG.drop {w:World} {b off:Nat} {l:Bs} (h:bG w b off l) (n:Nat):bG w b (off+n) (l.drop n):=by
 intro j hj
 simp only [List.length_drop] at hj
 have:=h (n+j) (by omega)
 rw [←Nat.add_assoc] at this
 rw [this]
 simp [List.getD_eq_getElem?_getD,List.getElem?_drop]
theorem YM (l:Bs) (b off cap:Nat) (w:World) (hT:Lib.Utf8Tabs 6 7 w) (hp:bG w b off l) :
  Calls prog 93 #[.slice (some ⟨b,off,none⟩) l.length cap] w fun e w'=>e=.returned (.tuple #[.int .i32 (cV l).1,.int .i64 (cV l).2])∧Below w.heap.size w w':=by
 have hs:(⟨l.toArray⟩:ByteArray).size=l.length:=rfl
 have:=I4 ⟨l.toArray⟩ b off cap w hT (fun j hj=>by
  rw [hs] at hj
  rw [hp j hj]
  have:(⟨l.toArray⟩:ByteArray).get! j=l.getD j 0:=by simp [ByteArray.get!,List.getD_eq_getElem?_getD,hj]
  rw [this])
 rw [hs] at this
 exact this
theorem tV (l:Bs) (h:l≠[]):1≤(cV l).2:=by
 have:(⟨l.toArray⟩:ByteArray).size=l.length:=rfl
 have hn:l.length≠0:=by simpa using h
 unfold cV Lib.decodeGoB
 rw [this,if_neg hn]
 exact Lib.width_pos _ _
theorem I6 (l:Bs):(cV l).1≤1114111:=by
 unfold cV Lib.decodeGoB
 split
 ·decide
 ·exact Lib.rune_le _ _
theorem LI (l:Bs) (b off cap:Nat) (w:World) (cB:l ≠ []) (hT:Lib.Utf8Tabs 6 7 w) (hp:bG w b off l) (hl:l.length ≤ 100000000000000) (R0:l.length ≤ cap) (E1:cap ≤ 9223372036854775807) :
    Calls prog 90 #[.slice (some ⟨b,off,none⟩) l.length cap] w fun e w'=>e=.returned (.bool (cQ l))∧Below w.heap.size w w':=by
  have bF:((l.length:Int) == 0)=false:=by simpa using cB
  have E2:=Lib.hid (YM l b off cap w hT hp)
  have YN:=Lib.hid (show cQ l=(if (cV l).1=65533∧(cV l).2=1 then false else if iQ (cV l).1 then dU f8 (l.length - 1) (l.drop (cV l).2) else false) by
    have : l.length = (l.length - 1) + 1 := by have : l.length ≠ 0 := by simpa using cB
                                               omega
    unfold cQ
    rw [if_neg cB]
    conv=>lhs;rw [this]
    rw [dU,if_neg cB])
  have HT:=Lib.hid hT
  have HP:=Lib.hid hp
  have mF:=I6 l
  have iL:=tV l cB
  have hfc:=Lib.hid Gz
  have Ha:=Lib.hid YL
  have Ng:=Lib.hid (fun (Tb:Nat) (r:Nat) (w:World) (hr:r ≤ 1114111) (hA:Lib.RTabAt Tb 0 jO w)=>Tryz.unicode_Is_any Tb 0 jO r w (by omega) (by omega) hA YK)
  have XS:=Lib.hid (fun (Tb:Nat) (r:Nat) (w:World) (hr:r ≤ 1114111) (hA:Lib.RTabAt Tb 0 j9 w)=>Tryz.unicode_Is_any Tb 0 j9 r w (by omega) (by omega) hA T7)
  obtain ⟨r,hr⟩:∃ r,r=(cV l).1:=⟨_,rfl⟩
  obtain ⟨n,hn⟩:∃ n,n=(cV l).2:=⟨_,rfl⟩
  rw [← hr] at E2 YN mF
  rw [← hn] at E2 YN iL
  have R3:=Lib.hid mF
  clear hr hn hT hp mF
  have gO:(((r:Int) == 65533)=false) ∨ (((r:Int) == 65533)=true∧((n:Int) == 1)=false) ∨ (((r:Int) == 65533)=true∧((n:Int) == 1)=true):=by
    cases ((r:Int) == 65533) <;> cases ((n:Int) == 1) <;> simp
  rcases gO with hb|⟨hb,dJ⟩|⟨hb,dJ⟩
  case inr.inr=>
    go_enter func90,ntmps90
    go_wp2_with fail
    refine E2.out.mono ?_
    rintro e1 w1 ⟨rfl,bP⟩
    have fV:=Lib.hid bP
    clear bP
    go_wp2
    go_ret
    refine ⟨?_,fV.out⟩
    rw [YN.out, if_pos ⟨by  have : (r : Int) = 65533 := by simpa using hb
                            omega, by have : (n : Int) = 1 := by simpa using dJ
                                      omega⟩];rfl
  all_goals
    have T8:Hid (cQ l=(if iQ r then dU f8 (l.length - 1) (l.drop n) else false)):=by
      have:=YN.out
      rw [if_neg (by intro h;simp_all)] at this
      exact this
    go_enter func90,ntmps90
    go_wp2_with fail
    refine E2.out.mono ?_
    rintro e1 w1 ⟨rfl,bP⟩
    have fV:=Lib.hid bP
    clear bP
    go_wp2_with fail
    refine (hfc.out _).mono ?_
    rintro e2 w2 ⟨Tb,rfl,hA,YO⟩
    have AU:=Lib.hid (Ng.out Tb r w2 R3.out hA)
    have nK:=Lib.hid (fV.out.trans (YO.mono fV.out.size))
    clear hA YO
    go_wp2_with fail
    refine AU.out.mono ?_
    rintro e3 w3 ⟨rfl,l9⟩
    have lJ:=Lib.hid (nK.out.trans (l9.mono nK.out.size))
    clear l9 AU
    have dA:Lib.isGo jO (r:Int)=false ∨ Lib.isGo jO (r:Int)=true:=by cases Lib.isGo jO (r:Int) <;> simp
    rcases dA with dA|dA
    · go_wp2
      go_ret
      refine ⟨?_,lJ.out⟩
      rw [T8.out,if_neg (by unfold iQ;rw [dA];simp)];rfl
    · have YP:Hid (cQ l=dU f8 (l.length - 1) (l.drop n)):=by
        have:=T8.out
        rw [if_pos (by unfold iQ;exact dA)] at this
        exact this
      go_wp2
      clear dA hb bF E2
      go_loopg [0,3,4] l.length (fun k s _ nv wr=>∃ (lc:Bs) (o cp nn:Nat),s=.slice (some ⟨b,o,none⟩) lc.length cp∧nv=.int .i64 nn∧lc.length=k∧lc.length ≤ 100000000000000∧1 ≤ nn∧lc.length ≤ cp∧cp ≤ 9223372036854775807∧(∃ m,lc=l.drop m∧o=off + m)∧(∃ f,lc.length ≤ f + 1∧cQ l=dU f8 f (lc.drop nn))∧Below w.heap.size w wr)
      case atStart=>exact ⟨l,off,cap,n,rfl,rfl,rfl,hl,iL,R0,E1,⟨0,rfl,rfl⟩,⟨l.length - 1,by omega,YP.out⟩,lJ.out⟩
      case round=>
        obtain ⟨lc,o,cp,nn,rfl,rfl,hk,Yy,Ew,Zt,Zu,⟨m,eA,iA⟩,⟨f,hf,KP⟩,OM⟩:=hrel
        have oJ:=Lib.hid eA
        have wS:=Lib.hid iA
        have Et:bG wr b o lc:=by rw [eA,iA];exact (HP.out.below OM).drop m
        have HK:=Lib.hid hk
        have HF:=Lib.hid hf
        have HNF:=Lib.hid KP
        have tW:=Lib.hid OM
        have xJ:((nn:Int) < (lc.length:Int)) ∨ ¬ ((nn:Int) < (lc.length:Int)):=by omega
        rcases xJ with xJ|xJ
        · have tX:=Et.drop nn
          have E2:=YM (lc.drop nn) b (o + nn) (cp - nn) wr (Utf8Tabs_below HT.out OM) tX
          rw [List.length_drop] at E2
          have FL:lc.drop nn ≠ []:=by
            intro h
            have:=congrArg List.length h
            simp at this;omega
          have Nh:∃ f',f=f' + 1:=⟨f - 1,by omega⟩
          obtain ⟨f',rfl⟩:=Nh
          have T9:Hid (cQ l=(if (cV (lc.drop nn)).1=65533∧(cV (lc.drop nn)).2=1 then false else if f8 (cV (lc.drop nn)).1 then dU f8 f' ((lc.drop nn).drop (cV (lc.drop nn)).2) else false)):=by
            have:=KP
            rw [dU,if_neg FL] at this
            exact this
          have mF:=I6 (lc.drop nn)
          have gK:=tV (lc.drop nn) FL
          obtain ⟨r2,wD⟩:∃ r,r=(cV (lc.drop nn)).1:=⟨_,rfl⟩
          obtain ⟨n2,Zv⟩:∃ n,n=(cV (lc.drop nn)).2:=⟨_,rfl⟩
          rw [← wD] at E2 T9 mF
          rw [← Zv] at E2 T9 gK
          have HDR:=Lib.hid E2
          have fB:=Lib.hid mF
          have mH:=Lib.hid gK
          have EY:¬ cp=nn:=by omega
          have q1:(0:Int) ≤ (nn:Int):=by omega
          have q2:(lc.length:Int) ≤ (cp:Int):=by omega
          have q3:(nn:Int) ≤ (lc.length:Int):=by omega
          have q4:(nn:Int) ≤ (cp:Int):=by omega
          have q5:(lc.length:Int) ≤ 100000000000000:=by omega
          have Ez:=Lib.hid (And.intro Ew (And.intro Yy (And.intro Zt Zu)))
          clear eA iA hk hf KP OM Et tX FL E2 mF gK wD Zv Yy Ew Zt Zu
          have gO:(((r2:Int) == 65533)=false) ∨ (((r2:Int) == 65533)=true∧((n2:Int) == 1)=false) ∨ (((r2:Int) == 65533)=true∧((n2:Int) == 1)=true):=by
            cases ((r2:Int) == 65533) <;> cases ((n2:Int) == 1) <;> simp
          rcases gO with hb|⟨hb,dJ⟩|⟨hb,dJ⟩
          case inr.inr=>
            go_wp2_with fail
            refine HDR.out.mono ?_
            rintro e1 w1 ⟨rfl,bP⟩
            have fV:=Lib.hid bP
            clear bP
            go_wp2
            (try simp only [Exit.inBlock,Exit.then])
            go_ret
            refine ⟨?_,tW.out.trans (fV.out.mono tW.out.size)⟩
            rw [T9.out, if_pos ⟨by   have : (r2 : Int) = 65533 := by simpa using hb
                                     omega, by have : (n2 : Int) = 1 := by simpa using dJ
                                               omega⟩];rfl
          all_goals
            have Rd:Hid (cQ l=(if f8 r2 then dU f8 f' ((lc.drop nn).drop n2) else false)):=by
              have:=T9.out
              rw [if_neg (by
                rintro ⟨h1,h2⟩
                rw [h1] at hb
                try rw [h2] at dJ
                simp_all)] at this
              exact this
            go_wp2_with fail
            refine HDR.out.mono ?_
            rintro e1 w1 ⟨rfl,bP⟩
            have fV:=Lib.hid (tW.out.trans (bP.mono tW.out.size))
            clear bP
            go_wp2_with fail
            refine (hfc.out _).mono ?_
            rintro e2 w2 ⟨Tb,rfl,hA,YO⟩
            have AU:=Lib.hid (Ng.out Tb r2 w2 fB.out hA)
            have nK:=Lib.hid (fV.out.trans (YO.mono fV.out.size))
            clear hA YO
            go_wp2_with fail
            refine AU.out.mono ?_
            rintro e3 w3 ⟨rfl,l9⟩
            have lJ:=Lib.hid (nK.out.trans (l9.mono nK.out.size))
            clear l9 AU
            have dA:Lib.isGo jO (r2:Int)=false ∨ Lib.isGo jO (r2:Int)=true:=by cases Lib.isGo jO (r2:Int) <;> simp
            rcases dA with dA|dA
            · go_wp2_with fail
              refine (Ha.out _).mono ?_
              rintro e4 w4 ⟨Tb4,rfl,hA,PL⟩
              have AU:=Lib.hid (XS.out Tb4 r2 w4 fB.out hA)
              have C7:=Lib.hid (lJ.out.trans (PL.mono lJ.out.size))
              clear hA PL
              go_wp2_with fail
              refine AU.out.mono ?_
              rintro e5 w5 ⟨rfl,jM⟩
              have vQ:=Lib.hid (C7.out.trans (jM.mono C7.out.size))
              clear jM AU
              have YQ:Lib.isGo j9 (r2:Int)=false ∨ Lib.isGo j9 (r2:Int)=true:=by cases Lib.isGo j9 (r2:Int) <;> simp
              rcases YQ with YQ|YQ
              · go_wp2
                (try simp only [Exit.inBlock,Exit.then])
                go_ret
                refine ⟨?_,vQ.out⟩
                rw [Rd.out,if_neg (by unfold f8;rw [dA,YQ];simp)];rfl
              · have Re:=Lib.hid (show cQ l=dU f8 f' ((lc.drop nn).drop n2) by rw [Rd.out,if_pos (by unfold f8;rw [YQ];simp)])
                go_wp2
                go_roundg (lc.length - nn)
                case measure=>have:=HK.out;have:=Ez.out;omega
                case rel=>exact ⟨lc.drop nn,o + nn,cp - nn,n2,by rw [List.length_drop],rfl,by rw [List.length_drop],by rw [List.length_drop];have:=Ez.out;omega,mH.out,by rw [List.length_drop];have:=Ez.out;omega,by have:=Ez.out;omega,⟨m + nn,by rw [oJ.out,List.drop_drop],by rw [wS.out];omega⟩,⟨f',by rw [List.length_drop];have:=HF.out;have:=Ez.out;omega,Re.out⟩,vQ.out⟩
            · have Re:=Lib.hid (show cQ l=dU f8 f' ((lc.drop nn).drop n2) by rw [Rd.out,if_pos (by unfold f8;rw [dA];simp)])
              go_wp2
              go_roundg (lc.length - nn)
              case measure=>have:=HK.out;have:=Ez.out;omega
              case rel=>exact ⟨lc.drop nn,o + nn,cp - nn,n2,by rw [List.length_drop],rfl,by rw [List.length_drop],by rw [List.length_drop];have:=Ez.out;omega,mH.out,by rw [List.length_drop];have:=Ez.out;omega,by have:=Ez.out;omega,⟨m + nn,by rw [oJ.out,List.drop_drop],by rw [wS.out];omega⟩,⟨f',by rw [List.length_drop];have:=HF.out;have:=Ez.out;omega,Re.out⟩,lJ.out⟩
        · have T9:=Lib.hid (show cQ l=true by
            rw [KP,show lc.drop nn=[] by apply List.drop_eq_nil_of_le;omega]
            cases f <;> simp [dU])
          clear eA iA hk hf KP OM Et
          go_wp2
          (try simp only [Exit.inBlock,Exit.then])
          go_ret
          exact ⟨by rw [T9.out];rfl,tW.out⟩
structure Cx.Fit (x:Cx):Prop extends Cx.Ok x where
 u8:Lib.Utf8Tabs 6 7 x.W0
theorem Cx.Fit.tabs {x:Cx} (hx:x.Fit) {w:World} (h:Below x.B x.W0 w):Lib.Utf8Tabs 6 7 w:=Utf8Tabs_below hx.u8 h
abbrev aB (s:Bs):Value:=.string ⟨s.toArray⟩
theorem cK.ofS0 {x:Cx} {w w':World} {v v':DV} (hm:aK x.S0 w w') (hb:∀ k,dQ v'.bufv k↔dQ v.bufv k):cK x w v w' v':=
 ⟨hm.mono (fun _ _ h=>Or.inl h),fun k hk=>Or.inl ((hb k).1 hk)⟩
theorem nL.bytes {x:Cx} {w:World} {v:Value} {buf:Bs} (h:nL x w v buf) (cB:buf≠[]):∃ g cap,v=.slice (some ⟨g,0,none⟩) buf.length cap∧bG w g 0 buf∧buf.length≤cap∧cap≤9223372036854775807∧x.B≤g∧¬ x.S0 g∧g<w.heap.size:=by
 rcases h with ⟨_,hb⟩|⟨g,cap,arr,hv,hg,gE,hl,wT,hB,hS,oB⟩
 ·exact absurd hb cB
 ·exact ⟨g,cap,hv,fun j hj=>by rw [Nat.zero_add,hg.cell];exact oB j hj,hl,wT,hB,hS,hg.lt⟩
theorem bG.toBytes {w:World} {b off:Nat} {l:Bs} (h:bG w b off l):Lib.Bytes w b off ⟨l.toArray⟩:=by
 intro i hi
 have hi':i<l.length:=hi
 rw [h i hi']
 simp [List.getD_eq_getElem?_getD,hi']
 rfl
theorem oL (l:Bs) (w:World) (b off cap:Nat) (h:bG w b off l):(convert 77 9 (.slice (some ⟨b,off,none⟩) l.length cap)).run prog w=.ok (aB l) w:=
 Lib.run_convert_whole (P:=prog) w 77 5 9 underlying77 underlying5 underlying9 b off ⟨l.toArray⟩ h.toBytes cap
theorem lK (l:Bs):(aD l).1.length+(aD l).2.length=l.length:=by
 induction l with
 | nil=>rfl
 | cons b r ih=>unfold aD;split<;>simp<;>omega
def YR (x:Cx) (c:DC) (w:World) (v:DV) (k:EK):Prop:=jP x c w v k∨(k=.syn∧∃ r b,bX x c w v r none b)
def YS (x:Cx) (c:DC) (w':World) (v':DV) (en:Ending):Except EK (Bs×Bs)→Prop
 | .error k=>en=.returned (.tuple #[.string ⟨#[]⟩,.bool false])∧YR x c w' v' k
 | .ok (s,r)=>en=.returned (.tuple #[aB s,.bool true])∧bX x c w' v' r none s
theorem aH {w w':World} (hb:Below w.heap.size w w') (S:Nat→Prop):aK S w w':=⟨hb.os,hb.tape,hb.output,hb.size,fun i hi _=>hb.block i hi⟩
theorem bX.syn {x:Cx} {c:DC} {w w':World} {v:DV} {rest:Bs} {e:Option EK} {buf:Bs} (h:bX x c w v rest e buf) (hx:x.Ok) (hb:Below w.heap.size w w') (a:Addr) :
  jP x c (w'.setCell ⟨x.d,20,none⟩ (.iface 109 (.pointer (some a)))) { v with err:=.iface 109 (.pointer (some a)) } .syn:=
 ⟨(aK.below h.base h.base.size (aH hb (fun _=>False)) (fun _ h=>h.elim)).setCell hx.d _,(show aJ _ x.d _ _ from aJ.mod (S:=fun _=>False) h.dec (aH hb _) id).set 20 _,⟨a,rfl⟩⟩
theorem cK.syn {x:Cx} {w0 w w':World} {v0 v:DV} (h:cK x w0 v0 w v) (hb:Below w.heap.size w w') (u:Value):cK x w0 v0 (w'.setCell ⟨x.d,20,none⟩ u) { v with err:=u }:=
 h.s0 ((aH hb x.S0).setCell (p:=⟨x.d,20,none⟩) (Or.inl (Or.inl rfl)) u) rfl
theorem bX.below {x:Cx} {c:DC} {w w':World} {v:DV} {rest:Bs} {e:Option EK} {buf:Bs} (h:bX x c w v rest e buf) (hx:x.Ok) (hb:Below w.heap.size w w'):bX x c w' v rest e buf:=by
 obtain ⟨un,iW,hu⟩:=h.inp
 exact h.step hx (aJ.mod (S:=fun _=>False) h.dec (aH hb _) id) (aH hb _) ⟨un,iW.mod (aH hb (fun _=>False)) id id id,hu⟩ h.pos h.err h.fin rfl
theorem UA {f:Bool} {rest:Bs} (h:(aD rest).2=[]):eX f rest=.error (bW f):=by unfold eX;rw [if_pos h]
theorem PM {f:Bool} {rest:Bs} (h:(aD rest).2≠[]) (h1:(aD rest).1=[]):eX f rest=.error .syn:=by unfold eX;rw [if_neg h,if_pos h1]
theorem PN {f:Bool} {rest:Bs} (h:(aD rest).2≠[]) (h1:(aD rest).1≠[]):eX f rest=if cQ (aD rest).1 then .ok (aD rest) else .error .syn:=by unfold eX;rw [if_neg h,if_neg h1]
theorem YT (x:Cx) (hx:x.Fit) (c:DC) (dR:iU x c) (w:World) (v:DV) (rest:Bs) (e:Option EK) (buf:Bs) (h:bX x c w v rest e buf) :
  Calls prog 62 #[.pointer (some ⟨x.d,0,none⟩)] w fun en w'=>∃ v',cK x w v w' v' ∧
   YS x c w' v' en (eX x.o.fails rest):=by
 have HX:=Lib.hid hx
 have HD:=Lib.hid dR
 have YG:=Lib.hid (show rest.length≤1000000000 from Nat.le_trans (h.suf.length_le) hx.len)
 have B1:=Lib.hid (rV x hx.toOk c w v rest e buf h)
 clear h hx dR
 go_enter func62,ntmps62
 go_wp2_with fail
 refine B1.out.mono ?_
 rintro e1 w1 ⟨rfl,v1,h1,iL,bP,eA,iR⟩
 have Ni:=Lib.hid (C4 x HX.out.toOk c HD.out w1 v1 rest e [] h1 (by simp))
 have iS:=Lib.hid (cK.ofS0 eA bP)
 clear h1 iL bP eA iR B1
 go_wp2_with fail
 refine Ni.out.mono ?_
 rintro e2 w2 ⟨v2,gS,hq⟩
 have gH:=Lib.hid (iS.out.trans gS)
 clear gS Ni
 rcases hq with ⟨fY,rfl,he⟩|⟨fY,jV,rfl,hr⟩|⟨fY,jV,rfl,hr⟩
 ·have HE:=Lib.hid he
  have oK:=Lib.hid fY
  clear he fY
  go_wp2
  go_ret2
  refine ⟨v2,gH.out,?_⟩
  rw [UA oK.out]
  exact ⟨rfl,Or.inl HE.out⟩
 ·have HR:=Lib.hid hr
  have oK:=Lib.hid fY
  have iS:=Lib.hid jV
  clear hr fY jV
  go_wp2
  go_ret2
  refine ⟨v2,gH.out,?_⟩
  rw [PM oK.out iS.out]
  exact ⟨rfl,Or.inr ⟨rfl,_,_,HR.out⟩⟩
 ·rw [List.nil_append] at hr
  obtain ⟨l,hl⟩:∃ l,l=(aD rest).1:=⟨_,rfl⟩
  have vC:l.length≤1000000000:=by have:=lK rest;have:=YG.out;rw [hl];omega
  have LJ:=Lib.hid (show eX x.o.fails rest=if cQ l then .ok (l,(aD rest).2) else .error .syn by
   rw [PN fY jV,hl])
  rw [←hl] at hr jV
  obtain ⟨g,cap,hv,PO,yW,E1,F3,hSg,a3g⟩:=hr.bf.bytes jV
  have lY:=Lib.hid (nS x c w2 v2 _ none l hr)
  have AV:=Lib.hid (fun k=>LI l g 0 cap (w2.drewN k) jV (HX.out.tabs (cA hr.base k)) PO (by omega) yW E1)
  have HR:=Lib.hid hr
  have HBY:=Lib.hid PO
  clear hr PO fY hl F3 hSg
  rw [hv] at lY
  go_wp2_with fail
  refine lY.out.mono ?_
  rintro e3 w3 ⟨rfl,k,rfl⟩
  go_wp2_with fail
  refine (AV.out k).mono ?_
  rintro e4 w4 ⟨rfl,pC⟩
  have PL:Below w2.heap.size w2 w4:=⟨pC.os,pC.tape,pC.output,pC.size,pC.block⟩
  have h4:=HR.out.below HX.out.toOk PL
  have nM:=Lib.hid (gH.out.s0 (aH PL _) rfl)
  have a5K:=oL l w4 g 0 cap (HBY.out.below PL)
  have H4:=Lib.hid h4
  clear pC PL AV lY h4
  have iZ:cQ l=true∨cQ l=false:=by cases cQ l<;>simp
  rcases iZ with hc|hc
  ·have HN:=Lib.hid (show eX x.o.fails rest=.ok (l,(aD rest).2) by rw [LJ.out,if_pos hc])
   go_wp2
   go_ret2
   refine ⟨v2,nM.out,?_⟩
   rw [HN.out]
   exact ⟨rfl,H4.out⟩
  ·have HN:=Lib.hid (show eX x.o.fails rest=.error .syn by rw [LJ.out,hc];rfl)
   have hsy:=Lib.hid (IX x.d c v2 w4 H4.out.dec)
   go_wp2_with fail
   refine (hsy.out _).mono ?_
   rintro e5 w5 ⟨rfl,Rf⟩
   have jM:Below w4.heap.size w4 w5:=by rw [Rf];exact (Below.refl _ w4).alloc (Nat.le_refl _) _
   have Xt:bO w5 x.d c v2:=aJ.mod (S:=fun _=>False) H4.out.dec (aH jM _) id
   have Zw:=Xt.cell
   have Zx:=Xt.frozen
   have vQ:=Lib.hid jM
   clear Rf Xt jM
   go_wp2
   go_ret2
   refine ⟨{ v2 with err:=.iface 109 (.pointer (some ⟨w4.heap.size,0,none⟩)) },nM.out.syn vQ.out _,?_⟩
   rw [HN.out]
   exact ⟨rfl,Or.inl (H4.out.syn HX.out.toOk vQ.out _)⟩
theorem iM {p:Prop} (H:p:=by first|kernel_rfl|(intro w;kernel_rfl)|(intro w;rfl)|decide):p:=H
def Rh:Go.Shelf.Ren:=⟨fun|25=>131|n=>n,
 fun|0=>0|3=>3|4=>4|5=>5|9=>9|37=>77|47=>263|n=>n,
 fun|n=>n⟩
theorem Hb:Go.Proofs.LaysPu.n25 prog Rh:={
 mixed:=iM,
 f25:=iM,
 t0:=iM,a0:=iM,z0:=iM,v0:=iM,i0:=iM,
 t3:=iM,a3:=iM,z3:=iM,v3:=iM,i3:=iM,
 t4:=iM,a4:=iM,z4:=iM,v4:=iM,i4:=iM,
 t5:=iM,a5:=iM,z5:=iM,v5:=iM,i5:=iM,
 t9:=iM,a9:=iM,z9:=iM,v9:=iM,i9:=iM,
 t37:=iM,a37:=iM,z37:=iM,v37:=iM,i37:=iM,
 t47:=iM,a47:=iM,z47:=iM,v47:=iM,i47:=iM }
theorem R4 (s:ByteArray) (w:World) (kY:s.size≤281474976710656) :
  Calls prog 131 #[.string s] w fun e w'=>e=.returned (.string s)∧Below w.heap.size w w':=
 AnyPu.stringslite_Clone Hb s w kY
abbrev pD (a:Addr):Value:=.iface 192 (.pointer (some a))
def pM (w:World):Prop:=(∃ a,w.cell? ⟨8,0,none⟩=some (pD a))∧∃ a,w.cell? ⟨9,0,none⟩=some (pD a)
theorem pM.below {w w':World} {B:Nat} (h:pM w) (h1:8<B) (h2:9<B) (hb:Below B w w'):pM w':=by
 obtain ⟨⟨u,hu⟩,⟨v,hv⟩⟩:=h
 exact ⟨⟨u,by rw [hb.cell (p:=⟨_,0,none⟩) h1];exact hu⟩,⟨v,by rw [hb.cell (p:=⟨_,0,none⟩) h2];exact hv⟩⟩
def YU (w:World) (e:Ending) (w':World):Prop:=(∃ a,e=.returned (.pointer (some a)))∧Below w.heap.size w w'
theorem Ri (fn s:ByteArray) (w:World) (hs:s.size≤1000000000) (a:Addr) (hv:w.cell? ⟨8,0,none⟩=some (pD a)) (hg:8<w.heap.size) :
  Calls prog 123 #[.string fn,.string s] w (YU w):=by
 have R0:=Lh (fun w=>R4 s w (by omega))
 have HV:=Lh hv
 go_enter func123,ntmps123
 go_wp2
 go_region_held3 (fun w'=>w'.cell? ⟨8,0,none⟩=some (pD a))
  (first|go_keep|(show w1.cell? ⟨8,0,none⟩=some (pD a);rw [hb.cell (p:=⟨_,0,none⟩) hg];exact HV.out))
  (first|(go_at_call 131;refine (R0.out _).mono ?_;rintro e w1 ⟨rfl,hb⟩))
 go_wp2
 go_ret
 exact ⟨⟨_,rfl⟩,(show Below w.heap.size w w1 from ⟨hb.os,hb.tape,hb.output,hb.size,hb.block⟩).alloc hb.size _⟩
theorem Rj (fn s:ByteArray) (w:World) (hs:s.size≤1000000000) (a:Addr) (hv:w.cell? ⟨9,0,none⟩=some (pD a)) (hg:9<w.heap.size) :
  Calls prog 124 #[.string fn,.string s] w (YU w):=by
 have R0:=Lh (fun w=>R4 s w (by omega))
 have HV:=Lh hv
 go_enter func124,ntmps124
 go_wp2
 go_region_held3 (fun w'=>w'.cell? ⟨9,0,none⟩=some (pD a))
  (first|go_keep|(show w1.cell? ⟨9,0,none⟩=some (pD a);rw [hb.cell (p:=⟨_,0,none⟩) hg];exact HV.out))
  (first|(go_at_call 131;refine (R0.out _).mono ?_;rintro e w1 ⟨rfl,hb⟩))
 go_wp2
 go_ret
 exact ⟨⟨_,rfl⟩,(show Below w.heap.size w w1 from ⟨hb.os,hb.tape,hb.output,hb.size,hb.block⟩).alloc hb.size _⟩
theorem Hc (w:World):(binOp .eql 49 (.iface 234 (.int .i64 2)) (.iface 234 (.int .i64 2))).run prog w=.ok (.bool true) w:=by kernel_rfl
theorem Hd (w:World):(binOp .eql 49 (.iface 234 (.int .i64 1)) (.iface 234 (.int .i64 2))).run prog w=.ok (.bool false) w:=by kernel_rfl
theorem He (w:World):(binOp .eql 49 (.iface 234 (.int .i64 1)) (.iface 234 (.int .i64 1))).run prog w=.ok (.bool true) w:=by kernel_rfl
def Zy (w:World) (e:Ending) (w':World):Prop:=(∃ t v,e=.returned (.iface t v))∧Below w.heap.size w w'
theorem UB (k:Int) (hk:k=1∨k=2) (fn s:ByteArray) (base:Int) (w:World) (hs:s.size≤1000000000) (hn:pM w) (h1:8<w.heap.size) (h2:9<w.heap.size) :
  Calls prog 109 #[.string fn,.string s,.int .i64 base,.int .i64 64,.iface 234 (.int .i64 k)] w (Zy w):=by
 obtain ⟨⟨u,hu⟩,⟨v,hv⟩⟩:=hn
 have ha:=Lh (Ri fn s w hs u hu h1)
 have hb:=Lh (Rj fn s w hs v hv h2)
 clear hu hv h1 h2
 have q22:=Hc
 have q12:=Hd
 have q11:=He
 rcases hk with rfl|rfl
 ·go_enter func109,ntmps109
  go_wp2_with fail
  refine hb.out.mono ?_
  rintro e w1 ⟨⟨a,rfl⟩,hw⟩
  have HW:=Lh hw
  clear hw
  go_wp2
  go_ret
  exact ⟨⟨_,_,rfl⟩,HW.out⟩
 ·go_enter func109,ntmps109
  go_wp2_with fail
  refine ha.out.mono ?_
  rintro e w1 ⟨⟨a,rfl⟩,hw⟩
  have HW:=Lh hw
  clear hw
  go_wp2
  go_ret
  exact ⟨⟨_,_,rfl⟩,HW.out⟩
def R5 (bQ:Bool) (ds:Bs) (en:Ending):Prop:=
 if ds=[]∨18446744073709551616≤gL bQ ds then ∃ n t u,en=.returned (.tuple #[.int .u64 n,.iface t u]) else en=.returned (.tuple #[.int .u64 (gL bQ ds),.nilIface])
theorem LK (bQ:Bool) (ds:Bs) (hd:∀ b∈ds,eY bQ b=true) (hl:ds.length≤1000000000) (w:World) (hn:pM w) (h1:8<w.heap.size) (h2:9<w.heap.size) :
  Calls prog 88 #[XP ds,.int .i64 (if bQ then 16 else 10),.int .i64 64] w fun en w'=>R5 bQ ds en∧Below w.heap.size w w':=by
 have AV:=Lh (IP bQ ds hd hl w)
 have HT:=Lh (fun (k:Int) (hk:k=1∨k=2) (fn:ByteArray) (base:Int) (w':World) (hb:Below w.heap.size w w')=>UB k hk fn ⟨ds.toArray⟩ base w' (by show ds.length≤_;omega) (hn.below h1 h2 hb) (Nat.lt_of_lt_of_le h1 hb.size) (Nat.lt_of_lt_of_le h2 hb.size))
 clear hn h1 h2 hd
 obtain ⟨base,Nj⟩:∃ base:Int,base=if bQ then 16 else 10:=⟨_,rfl⟩
 rw [←Nj] at AV ⊢
 clear Nj
 go_enter func88,ntmps88
 go_wp2_with fail
 refine AV.out.mono ?_
 rintro e w1 ⟨hp,hw⟩
 unfold rR at hp
 by_cases hc:ds=[]∨18446744073709551616≤gL bQ ds
 ·rw [if_pos hc] at hp
  obtain ⟨n,k,rfl,hk⟩:=hp
  have HC:=Lh hc
  have HW:=Lh hw
  have ht:=Lh (fun (fn:ByteArray) (base:Int)=>HT.out k hk fn base w1 hw)
  clear hc hw hk
  go_wp2_with fail
  refine (ht.out _ _).mono ?_
  rintro e2 w2 ⟨⟨t,u,rfl⟩,n7⟩
  have HW2:=Lh n7
  clear n7
  go_wp2
  go_ret2
  refine ⟨?_,HW.out.trans (HW2.out.mono HW.out.size)⟩
  unfold R5
  rw [if_pos HC.out]
  exact ⟨_,_,_,rfl⟩
 ·rw [if_neg hc] at hp
  subst hp
  have HC:=Lh hc
  have HW:=Lh hw
  clear hc hw
  go_wp2
  go_ret2
  refine ⟨?_,HW.out⟩
  unfold R5
  rw [if_neg HC.out]
  rfl
end Go.Proofs.YtdjdjbpnbjdaaaaGreatDoor
