/- Part of the proof that laws.FnBeginning, laws.FnPlaces returns true for every argument (Nm, Dr, Run, Ta, Tc, Is). No condition of its own. -/
import Derived.Test.YtkjnockljapnbaaGreatDoorK10
import Derived.Shelf.Spec.DecodeRune
import Derived.Test.YtkjnockljapnbaaGreatDoorK09
import Derived.Shelf.Unicode.PredsPay
set_option linter.all false
set_option maxHeartbeats 8000000
set_option maxRecDepth 100000
namespace Go.Proofs.YtkjnockljapnbaaGreatDoor
open Go Go.RowKit
theorem ascName_iff (b:UInt8):ascName b=true ↔ (65 ≤ b.toNat∧b.toNat ≤ 90) ∨ (97 ≤ b.toNat∧b.toNat ≤ 122) ∨ (48 ≤ b.toNat∧b.toNat ≤ 57) ∨ b.toNat=95 ∨ b.toNat=58 ∨ b.toNat=46 ∨ b.toNat=45:=by
  simp only [ascName,Bool.or_eq_true,Bool.and_eq_true,decide_eq_true_eq,beq_iff_eq,UInt8.le_iff_toNat_le,← UInt8.toNat_inj]
  have e1:(65:UInt8).toNat=65:=rfl
  have e2:(90:UInt8).toNat=90:=rfl
  have e3:(97:UInt8).toNat=97:=rfl
  have e4:(122:UInt8).toNat=122:=rfl
  have e5:(48:UInt8).toNat=48:=rfl
  have e6:(57:UInt8).toNat=57:=rfl
  have e7:(95:UInt8).toNat=95:=rfl
  have e8:(58:UInt8).toNat=58:=rfl
  have e9:(46:UInt8).toNat=46:=rfl
  have e0:(45:UInt8).toNat=45:=rfl
  rw [e1,e2,e3,e4,e5,e6,e7,e8,e9,e0]
  omega
theorem nameByte_c (b:UInt8) (w:World):Calls Tryz.prog 80 #[.int .u8 b.toNat] w fun e w'=>e=.returned (.bool (ascName b))∧w=w':=by
  have hA:=Lib.hid (ascName_iff b)
  obtain ⟨n,hn⟩:∃ n,n=b.toNat:=⟨_,rfl⟩
  rw [← hn] at hA ⊢
  have HN:=Lib.hid hn
  clear hn
  have hsplit:n < 45 ∨ n=45 ∨ n=46 ∨ n=47 ∨ (48 ≤ n∧n ≤ 57) ∨ n=58 ∨ (59 ≤ n∧n ≤ 64) ∨ (65 ≤ n∧n ≤ 90) ∨ (91 ≤ n∧n ≤ 94) ∨ n=95 ∨ n=96 ∨ (97 ≤ n∧n ≤ 122) ∨ 123 ≤ n:=by omega
  rcases hsplit with h|h|h|h|h|h|h|h|h|h|h|h|h
  all_goals
    have HH:=Lib.hid h
    first|have:(65:Int) ≤ (n:Int):=by omega|have:¬ ((65:Int) ≤ (n:Int)):=by omega
    first|have:(n:Int) ≤ 90:=by omega|have:¬ ((n:Int) ≤ 90):=by omega
    first|have:(97:Int) ≤ (n:Int):=by omega|have:¬ ((97:Int) ≤ (n:Int)):=by omega
    first|have:(n:Int) ≤ 122:=by omega|have:¬ ((n:Int) ≤ 122):=by omega
    first|have:(48:Int) ≤ (n:Int):=by omega|have:¬ ((48:Int) ≤ (n:Int)):=by omega
    first|have:(n:Int) ≤ 57:=by omega|have:¬ ((n:Int) ≤ 57):=by omega
    first|have:(((n:Int)) == (95))=true:=by (simp;omega)|have:(((n:Int)) == (95))=false:=by (simp;omega)
    first|have:(((n:Int)) == (58))=true:=by (simp;omega)|have:(((n:Int)) == (58))=false:=by (simp;omega)
    first|have:(((n:Int)) == (46))=true:=by (simp;omega)|have:(((n:Int)) == (46))=false:=by (simp;omega)
    first|have:(((n:Int)) == (45))=true:=by (simp;omega)|have:(((n:Int)) == (45))=false:=by (simp;omega)
    clear h
    go_enter Tryz.func80,Tryz.ntmps80
    go_wp2
    go_ret
    refine ⟨?_,rfl⟩
    have:=HH.out
    first
      | (rw [show ascName b=true from hA.out.2 (by omega)];rfl)
      | (rw [show ascName b=false from by
          rw [← Bool.not_eq_true];intro hh
          have:=hA.out.1 hh;omega];rfl)
theorem nameByte_hi {b:UInt8} (h:(128:Int) ≤ (b.toNat:Int)):nameByte b=true:=by
  have h1:(128:UInt8).toNat=128:=rfl
  simp only [nameByte,Bool.or_eq_true,decide_eq_true_eq,UInt8.le_iff_toNat_le,h1]
  exact Or.inl (by omega)
theorem nameByte_lo {b:UInt8} (h:(b.toNat:Int) < 128):nameByte b=ascName b:=by
  have h1:(128:UInt8).toNat=128:=rfl
  have:¬ (128 ≤ b):=by rw [UInt8.le_iff_toNat_le,h1];omega
  simp [nameByte,this]
theorem Stp.s0 {x:Cx} {w w1 w':World} {v v1 v':DV} (h:Stp x w v w1 v1) (hm:Mod x.S0 w1 w') (hb:v'.bufv=v1.bufv):Stp x w v w' v':=h.trans (hm.stp hb)
theorem readName_c (x:Cx) (hx:x.Ok) (c:DC) (hdc:DcOk x c) (w:World) (v:DV) (rest:Bs) (e:Option EK) (buf:Bs) (h:RdS x c w v rest e buf) (hlim:buf.length ≤ 10000000000000) :
    Calls Tryz.prog 61 #[.pointer (some ⟨x.d,0,none⟩)] w fun en w'=>∃ v',Stp x w v w' v' ∧
      (((spanName rest).2=[]∧en=.returned (.bool false)∧ErrS x c w' v' (mustE x.o.fails)) ∨
       ((spanName rest).2 ≠ []∧(spanName rest).1=[]∧en=.returned (.bool false)∧RdS x c w' v' rest none buf) ∨
       ((spanName rest).2 ≠ []∧(spanName rest).1 ≠ []∧en=.returned (.bool true)∧RdS x c w' v' (spanName rest).2 none (buf ++ (spanName rest).1))):=by
  have HX:=Lib.hid hx
  have HD:=Lib.hid hdc
  have H:=Lib.hid h
  have hll:rest.length ≤ 1000000000:=Nat.le_trans (h.suf.length_le) hx.len
  clear h hx hdc
  cases rest with
  | nil=>
    have hcon:=Lib.hid (mustgetc_none x HX.out c HD.out w v e buf H.out)
    go_enter Tryz.func61,Tryz.ntmps61
    go_wp2_with fail
    refine hcon.out.mono ?_
    rintro e1 w1 ⟨rfl,hq⟩
    have HQ:=Lib.hid hq
    clear hq
    go_wp2
    go_ret
    obtain ⟨v1,h1,hb1,hm1⟩:=HQ.out
    exact ⟨v1,hm1.stp hb1,Or.inl ⟨rfl,rfl,h1⟩⟩
  | cons b r=>
    have hcon:=Lib.hid (mustgetc_some x HX.out c HD.out w v b r e buf H.out)
    have HSUF:=Lib.hid H.out.suf
    have hnb:=Lib.hid (nameByte_c b)
    by_cases hnm:nameByte b=true
    · have hcase:((128:Int) ≤ (b.toNat:Int)) ∨ ((b.toNat:Int) < 128∧ascName b=true):=by
        rcases Int.lt_or_le (b.toNat:Int) 128 with h|h
        · exact Or.inr ⟨h,by rw [← nameByte_lo h];exact hnm⟩
        · exact Or.inl h
      have HSP1:=Lib.hid (show (spanName (b :: r)).1=b :: (spanName r).1 by simp [spanName,hnm])
      have HSP2:=Lib.hid (show (spanName (b :: r)).2=(spanName r).2 by simp [spanName,hnm])
      clear hnm
      have hnn:r.length ≤ 1000000000:=by simp at hll;omega
      have HLL:=Lib.hid hnn
      have HLIM:=Lib.hid hlim
      clear hll hlim hnn
      rcases hcase with hhi|⟨hlo,hasc⟩
      all_goals
        go_enter Tryz.func61,Tryz.ntmps61
        go_wp2_with fail
        refine hcon.out.mono ?_
        rintro e1 w1 ⟨rfl,v1,h1,hn1,hb1,hm1,hz1⟩
        have hwb:=Lib.hid (writeByte_c x HX.out c w1 v1 r none buf h1 b (by have:=HLIM.out;omega))
        have HB1:=Lib.hid hb1
        have HM1:=Lib.hid hm1
        clear h1 hb1 hm1 hz1 hn1 hcon
        go_wp2_with fail
        try
          refine (hnb.out _).mono ?_
          rintro e2 w2 ⟨rfl,rfl⟩
          go_wp2_with fail
        refine hwb.out.mono ?_
        rintro e3 w3 ⟨rfl,v3,h3,hn3,hs3⟩
        have HS3:=Lib.hid ((HM1.out.stp HB1.out).trans hs3)
        have H3:=Lib.hid h3
        clear h3 hn3 hs3 hwb HB1 HM1
        go_wp2
        go_loopg [2,3] r.length (fun k _ _ wr=>∃ v4 r4 pre,r4.length=k∧Stp x w v wr v4∧RdS x c wr v4 r4 none (buf ++ pre)∧pre.length + r4.length=r.length + 1∧(spanName (b :: r)).1=pre ++ (spanName r4).1∧(spanName (b :: r)).2=(spanName r4).2)
        case atStart=>exact ⟨v3,r,[b],rfl,HS3.out,H3.out,by simp;omega,HSP1.out,HSP2.out⟩
        case round=>
          obtain ⟨v4,r4,pre,hk,hs4,h4,hpl,hp1,hp2⟩:=hrel
          have HK:=Lib.hid hk
          have HS4:=Lib.hid hs4
          have HPL:=Lib.hid hpl
          have HP1:=Lib.hid hp1
          have HP2:=Lib.hid hp2
          have H4:=Lib.hid h4
          clear hk hs4 hpl hp1 hp2 h4
          cases r4 with
          | nil=>
            have hcon:=Lib.hid (mustgetc_none x HX.out c HD.out wr v4 none _ H4.out)
            go_wp2_with fail
            refine hcon.out.mono ?_
            rintro e1 w1 ⟨rfl,hq⟩
            have HQ:=Lib.hid hq
            clear hq
            go_wp2
            (try simp only [Exit.inBlock,Exit.then])
            go_ret
            obtain ⟨v5,h5,hb5,hm5⟩:=HQ.out
            exact ⟨v5,HS4.out.s0 hm5 hb5,Or.inl ⟨HP2.out,rfl,h5⟩⟩
          | cons b4 r5=>
            have hcon:=Lib.hid (mustgetc_some x HX.out c HD.out wr v4 b4 r5 none _ H4.out)
            have HSUF:=Lib.hid H4.out.suf
            have hnb4:=Lib.hid (nameByte_c b4)
            by_cases hnm:nameByte b4=true
            · have hcase:((128:Int) ≤ (b4.toNat:Int)) ∨ ((b4.toNat:Int) < 128∧ascName b4=true):=by
                rcases Int.lt_or_le (b4.toNat:Int) 128 with h|h
                · exact Or.inr ⟨h,by rw [← nameByte_lo h];exact hnm⟩
                · exact Or.inl h
              have HSQ1:=Lib.hid (show (spanName (b4 :: r5)).1=b4 :: (spanName r5).1 by simp [spanName,hnm])
              have HSQ2:=Lib.hid (show (spanName (b4 :: r5)).2=(spanName r5).2 by simp [spanName,hnm])
              clear hnm
              rcases hcase with hhi4|⟨hlo4,hasc4⟩
              all_goals
                go_wp2_with fail
                refine hcon.out.mono ?_
                rintro e1 w1 ⟨rfl,v5,h5,hn5,hb5,hm5,hz5⟩
                have hwb:=Lib.hid (writeByte_c x HX.out c w1 v5 r5 none _ h5 b4 (by
                  have h1:=HLIM.out
                  have h2:=HPL.out
                  have h3:=HLL.out
                  simp at h2 ⊢;omega))
                have HB5:=Lib.hid hb5
                have HM5:=Lib.hid hm5
                clear h5 hb5 hm5 hz5 hn5 hcon
                go_wp2_with fail
                try
                  refine (hnb4.out _).mono ?_
                  rintro e2 w2 ⟨rfl,rfl⟩
                  go_wp2_with fail
                refine hwb.out.mono ?_
                rintro e3 w3 ⟨rfl,v6,h6,hn6,hs6⟩
                have HS6:=Lib.hid ((HS4.out.s0 HM5.out HB5.out).trans hs6)
                have H6:=Lib.hid h6
                clear h6 hn6 hs6 hwb HB5 HM5
                go_wp2
                go_roundg r5.length
                case measure=>have:=HK.out;simp at this;omega
                case rel=>exact ⟨v6,r5,pre ++ [b4],rfl,HS6.out,by rw [← List.append_assoc];exact H6.out,by have:=HPL.out;simp at this ⊢;omega,by rw [HP1.out,HSQ1.out];simp,by rw [HP2.out,HSQ2.out]⟩
            · have hlo4:(b4.toNat:Int) < 128:=by
                rcases Int.lt_or_le (b4.toNat:Int) 128 with h|h
                · exact h
                · exact absurd (nameByte_hi h) hnm
              have hasc4:ascName b4=false:=by rw [← nameByte_lo hlo4];simpa using hnm
              have HSQ:=Lib.hid (show spanName (b4 :: r5)=([],b4 :: r5) by simp [spanName,hnm])
              clear hnm
              go_wp2_with fail
              refine hcon.out.mono ?_
              rintro e1 w1 ⟨rfl,v5,h5,hn5,hb5,hm5,hz5⟩
              have hun:=Lib.hid (ungetc_c x HX.out c w1 v5 b4 r5 _ h5 hn5 HSUF.out)
              have HB5:=Lib.hid hb5
              have HM5:=Lib.hid hm5
              clear h5 hb5 hm5 hz5 hn5 hcon
              go_wp2_with fail
              refine (hnb4.out _).mono ?_
              rintro e2 w2 ⟨rfl,rfl⟩
              go_wp2_with fail
              refine hun.out.mono ?_
              rintro e3 w3 ⟨rfl,hq⟩
              have HQ:=Lib.hid hq
              clear hq hun
              go_wp2
              (try simp only [Exit.inBlock,Exit.then])
              go_ret
              obtain ⟨v6,h6,hn6,hb6,hm6,hz6⟩:=HQ.out
              have hsp2:(spanName (b :: r)).2=b4 :: r5:=by rw [HP2.out,HSQ.out]
              have hsp1:(spanName (b :: r)).1=pre:=by rw [HP1.out,HSQ.out];simp
              refine ⟨v6,(HS4.out.s0 HM5.out HB5.out).s0 hm6 hb6,Or.inr (Or.inr ⟨by rw [hsp2];simp,by rw [HSP1.out];simp,rfl,?_⟩)⟩
              rw [hsp2,hsp1];exact h6
    · have hlo:(b.toNat:Int) < 128:=by
        rcases Int.lt_or_le (b.toNat:Int) 128 with h|h
        · exact h
        · exact absurd (nameByte_hi h) hnm
      have hasc:ascName b=false:=by rw [← nameByte_lo hlo];simpa using hnm
      have HSP:=Lib.hid (show spanName (b :: r)=([],b :: r) by simp [spanName,hnm])
      clear hnm
      go_enter Tryz.func61,Tryz.ntmps61
      go_wp2_with fail
      refine hcon.out.mono ?_
      rintro e1 w1 ⟨rfl,v1,h1,hn1,hb1,hm1,hz1⟩
      have hun:=Lib.hid (ungetc_c x HX.out c w1 v1 b r buf h1 hn1 HSUF.out)
      have HB1:=Lib.hid hb1
      have HM1:=Lib.hid hm1
      clear h1 hb1 hm1 hz1 hn1 hcon
      go_wp2_with fail
      refine (hnb.out _).mono ?_
      rintro e2 w2 ⟨rfl,rfl⟩
      go_wp2_with fail
      refine hun.out.mono ?_
      rintro e3 w3 ⟨rfl,hq⟩
      have HQ:=Lib.hid hq
      clear hq hun
      go_wp2
      go_ret
      obtain ⟨v3,h3,hn3,hb3,hm3,hz3⟩:=HQ.out
      exact ⟨v3,(HM1.out.stp HB1.out).s0 hm3 hb3,Or.inr (Or.inl ⟨by rw [HSP.out];simp,by rw [HSP.out],rfl,h3⟩)⟩
end Go.Proofs.YtkjnockljapnbaaGreatDoor
namespace Go.Proofs.YtkjnockljapnbaaGreatDoor
open Go Go.RowKit
def dr_ren:Go.Shelf.Ren:=⟨fun|32=>65|49=>84|n=>n,
  fun|0=>0|3=>3|4=>4|5=>5|21=>21|25=>119|30=>74|33=>167|66=>234|68=>236|69=>237|n=>n,
  fun|2=>6|3=>7|n=>n⟩
theorem dr_lays:Go.Proofs.Lays7.n32 Tryz.prog dr_ren:={
  mixed:=by first|kernel_rfl|(intro w;kernel_rfl)|(intro w;rfl)|decide,
  f32:=by first|kernel_rfl|(intro w;kernel_rfl)|(intro w;rfl)|decide,
  f49:=by first|kernel_rfl|(intro w;kernel_rfl)|(intro w;rfl)|decide,
  t0:=by first|kernel_rfl|(intro w;kernel_rfl)|(intro w;rfl)|decide,
  a0:=by first|kernel_rfl|(intro w;kernel_rfl)|(intro w;rfl)|decide,
  z0:=by first|kernel_rfl|(intro w;kernel_rfl)|(intro w;rfl)|decide,
  v0:=by first|kernel_rfl|(intro w;kernel_rfl)|(intro w;rfl)|decide,
  i0:=by first|kernel_rfl|(intro w;kernel_rfl)|(intro w;rfl)|decide,
  t3:=by first|kernel_rfl|(intro w;kernel_rfl)|(intro w;rfl)|decide,
  a3:=by first|kernel_rfl|(intro w;kernel_rfl)|(intro w;rfl)|decide,
  z3:=by first|kernel_rfl|(intro w;kernel_rfl)|(intro w;rfl)|decide,
  v3:=by first|kernel_rfl|(intro w;kernel_rfl)|(intro w;rfl)|decide,
  i3:=by first|kernel_rfl|(intro w;kernel_rfl)|(intro w;rfl)|decide,
  t4:=by first|kernel_rfl|(intro w;kernel_rfl)|(intro w;rfl)|decide,
  a4:=by first|kernel_rfl|(intro w;kernel_rfl)|(intro w;rfl)|decide,
  z4:=by first|kernel_rfl|(intro w;kernel_rfl)|(intro w;rfl)|decide,
  v4:=by first|kernel_rfl|(intro w;kernel_rfl)|(intro w;rfl)|decide,
  i4:=by first|kernel_rfl|(intro w;kernel_rfl)|(intro w;rfl)|decide,
  t5:=by first|kernel_rfl|(intro w;kernel_rfl)|(intro w;rfl)|decide,
  a5:=by first|kernel_rfl|(intro w;kernel_rfl)|(intro w;rfl)|decide,
  z5:=by first|kernel_rfl|(intro w;kernel_rfl)|(intro w;rfl)|decide,
  v5:=by first|kernel_rfl|(intro w;kernel_rfl)|(intro w;rfl)|decide,
  i5:=by first|kernel_rfl|(intro w;kernel_rfl)|(intro w;rfl)|decide,
  t21:=by first|kernel_rfl|(intro w;kernel_rfl)|(intro w;rfl)|decide,
  a21:=by first|kernel_rfl|(intro w;kernel_rfl)|(intro w;rfl)|decide,
  z21:=by first|kernel_rfl|(intro w;kernel_rfl)|(intro w;rfl)|decide,
  v21:=by first|kernel_rfl|(intro w;kernel_rfl)|(intro w;rfl)|decide,
  i21:=by first|kernel_rfl|(intro w;kernel_rfl)|(intro w;rfl)|decide,
  t25:=by first|kernel_rfl|(intro w;kernel_rfl)|(intro w;rfl)|decide,
  a25:=by first|kernel_rfl|(intro w;kernel_rfl)|(intro w;rfl)|decide,
  z25:=by first|kernel_rfl|(intro w;kernel_rfl)|(intro w;rfl)|decide,
  v25:=by first|kernel_rfl|(intro w;kernel_rfl)|(intro w;rfl)|decide,
  i25:=by first|kernel_rfl|(intro w;kernel_rfl)|(intro w;rfl)|decide,
  t30:=by first|kernel_rfl|(intro w;kernel_rfl)|(intro w;rfl)|decide,
  a30:=by first|kernel_rfl|(intro w;kernel_rfl)|(intro w;rfl)|decide,
  z30:=by first|kernel_rfl|(intro w;kernel_rfl)|(intro w;rfl)|decide,
  v30:=by first|kernel_rfl|(intro w;kernel_rfl)|(intro w;rfl)|decide,
  i30:=by first|kernel_rfl|(intro w;kernel_rfl)|(intro w;rfl)|decide,
  t33:=by first|kernel_rfl|(intro w;kernel_rfl)|(intro w;rfl)|decide,
  a33:=by first|kernel_rfl|(intro w;kernel_rfl)|(intro w;rfl)|decide,
  z33:=by first|kernel_rfl|(intro w;kernel_rfl)|(intro w;rfl)|decide,
  v33:=by first|kernel_rfl|(intro w;kernel_rfl)|(intro w;rfl)|decide,
  i33:=by first|kernel_rfl|(intro w;kernel_rfl)|(intro w;rfl)|decide,
  t66:=by first|kernel_rfl|(intro w;kernel_rfl)|(intro w;rfl)|decide,
  a66:=by first|kernel_rfl|(intro w;kernel_rfl)|(intro w;rfl)|decide,
  z66:=by first|kernel_rfl|(intro w;kernel_rfl)|(intro w;rfl)|decide,
  t68:=by first|kernel_rfl|(intro w;kernel_rfl)|(intro w;rfl)|decide,
  a68:=by first|kernel_rfl|(intro w;kernel_rfl)|(intro w;rfl)|decide,
  z68:=by first|kernel_rfl|(intro w;kernel_rfl)|(intro w;rfl)|decide,
  v68:=by first|kernel_rfl|(intro w;kernel_rfl)|(intro w;rfl)|decide,
  i68:=by first|kernel_rfl|(intro w;kernel_rfl)|(intro w;rfl)|decide,
  t69:=by first|kernel_rfl|(intro w;kernel_rfl)|(intro w;rfl)|decide,
  a69:=by first|kernel_rfl|(intro w;kernel_rfl)|(intro w;rfl)|decide,
  z69:=by first|kernel_rfl|(intro w;kernel_rfl)|(intro w;rfl)|decide,
  v69:=by first|kernel_rfl|(intro w;kernel_rfl)|(intro w;rfl)|decide,
  i69:=by first|kernel_rfl|(intro w;kernel_rfl)|(intro w;rfl)|decide,
  g2:=by first|kernel_rfl|(intro w;kernel_rfl)|(intro w;rfl)|decide,
  g3:=by first|kernel_rfl|(intro w;kernel_rfl)|(intro w;rfl)|decide }
theorem decodeRune_c (s:ByteArray) (b off cap:Nat) (w:World) (hT:Lib.Utf8Tabs 6 7 w) (hp:∀ j,j < s.size → w.cell? ⟨b,off + j,none⟩=some (.int .u8 (s.get! j).toNat)) :
    Calls Tryz.prog 65 #[.slice (some ⟨b,off,none⟩) s.size cap] w fun e w'=>e=.returned (.tuple #[.int .i32 (Lib.decodeGo s).1,.int .i64 (Lib.decodeGo s).2])∧Below w.heap.size w w':=
  Any7.utf8_DecodeRune dr_lays s b off cap w hT hp
end Go.Proofs.YtkjnockljapnbaaGreatDoor
namespace Go.Proofs.YtkjnockljapnbaaGreatDoor
open Go Go.RowKit
def runOps (P:Program) (ops:Array Oper):List Oper → Act → World → Option (Act × World)
  | [],a,w=>some (a,w)
  | o :: l,a,w=>
    if Region.wanted o (yielded ops a.tmps) then
      match (execOp a.eval o).run P w with
      | .ok (.value v) w'=>runOps P ops l (a.put o.dst v) w'
      | .ok .skip w'=>runOps P ops l (a.put o.dst undef) w'
      | _=>none
    else runOps P ops l (a.put o.dst undef) w
theorem wpList_run {P:Program} {ops:Array Oper} {Q:Exit → Act → World → Prop}:∀ (l:List Oper) (a:Act) (w:World) (r:Act × World),runOps P ops l a w=some r → Q .normal r.1 r.2 → wpList P ops Q l a w
  | [],a,w,r,h,hq=>by simp only [runOps,Option.some.injEq] at h;subst h;exact hq
  | o :: l,a,w,r,h,hq=>by
    unfold runOps at h
    unfold wpList
    split at h
    · rename_i hw
      rw [if_pos hw]
      refine Or.inl ?_
      unfold Oper.wp
      generalize (execOp a.eval o).run P w=res at *
      cases res with
      | ok n w'=>
        cases n <;> simp only [Oper.upon] <;> simp only [reduceCtorEq] at h
        · exact wpList_run l _ _ r h hq
        · exact wpList_run l _ _ r h hq
      | halt x w'=>simp only [reduceCtorEq] at h
    · rename_i hw
      rw [if_neg hw]
      exact wpList_run l _ _ r h hq
def runCode (P:Program):Code → Act → World → Option (Bool × Act × World)
  | .skip,a,w=>some (false,a,w)
  | .region _ ops false,a,w=>(runOps P ops ops.toList a w).map fun r=>(false,r.1,r.2)
  | .seq x y,a,w=>match runCode P x a w with
    | some (false,a',w')=>runCode P y a' w'
    | r=>r
  | .ret,a,w=>some (true,a,w)
  | _,_,_=>none
theorem wp_run {P:Program}:∀ (c:Code) (Q:Exit → Act → World → Prop) (a:Act) (w:World) (r:Bool × Act × World),runCode P c a w=some r → Q (if r.1 then .ret else .normal) r.2.1 r.2.2 → c.wp P Q a w
  | .skip,Q,a,w,r,h,hq=>by simp only [runCode,Option.some.injEq] at h;subst h;exact wp_skip (by simpa using hq)
  | .ret,Q,a,w,r,h,hq=>by simp only [runCode,Option.some.injEq] at h;subst h;exact wp_ret (by simpa using hq)
  | .region id ops false,Q,a,w,r,h,hq=>by
    simp only [runCode,Option.map_eq_some_iff] at h
    obtain ⟨s,hs,rfl⟩:=h
    have:=wpList_run (Q:=Q) ops.toList a w s hs (by simpa using hq)
    exact wp_region_list this
  | .seq x y,Q,a,w,r,h,hq=>by
    unfold runCode at h
    split at h
    · rename_i a' w' hx
      exact wp_seq (wp_run x _ a w _ hx (by simpa [Exit.then] using wp_run y Q a' w' r h hq))
    · rename_i hx
      obtain ⟨b,a',w'⟩:=r
      cases b with
      | false=>exact absurd h (hx _ _)
      | true=>exact wp_seq (wp_run x _ a w _ h (by simpa [Exit.then] using hq))
  | .region id ops true,Q,a,w,r,h,hq=>by simp [runCode] at h
  | .cond ..,_,_,_,_,h,_=>by simp [runCode] at h
  | .block ..,_,_,_,_,h,_=>by simp [runCode] at h
  | .loop ..,_,_,_,_,h,_=>by simp [runCode] at h
  | .rangeFunc ..,_,_,_,_,h,_=>by simp [runCode] at h
  | .exit ..,_,_,_,_,h,_=>by simp [runCode] at h
  | .scope ..,_,_,_,_,h,_=>by simp [runCode] at h
  | .label ..,_,_,_,_,h,_=>by simp [runCode] at h
  | .goto ..,_,_,_,_,h,_=>by simp [runCode] at h
  | .refuse ..,_,_,_,_,h,_=>by simp [runCode] at h
theorem calls_run {P:Program} {f:FuncId} {fn:Func} {c:Code} {args:Array Value} {w w':World} {v:Value} (t:Tmp) (hf:P.funcs[f]?=some fn) (hb:fn.body=some c) (hres:fn.results=#[.tmp t])
    (h:(runCode P c { tmps:=args ++ Array.replicate (fn.ntmps - args.size) undef,defers:=[] } w).map (fun r=>(r.1,r.2.1.tmps.getD t undef,r.2.1.defers.isEmpty,r.2.2))=some (true,v,true,w')) :
    Calls P f args w fun e w''=>e=.returned v∧w''=w':=by
  rw [Option.map_eq_some_iff] at h
  obtain ⟨⟨b,a,w1⟩,h1,h2⟩:=h
  simp only [Prod.mk.injEq] at h2
  obtain ⟨rfl,h2,h3,rfl⟩:=h2
  refine calls_of_wp hf hb (wp_run c _ _ w _ h1 ?_)
  simp only [if_true]
  exact bodyPost_ret (results_tmp hres _ _ _) (by simpa using h3) ⟨by rw [h2],rfl⟩
def rgCells (T:Array Lib.Rg):Array Value:=(T.toList.flatMap fun r=>[Value.int .u16 r.1,.int .u16 r.2.1,.int .u16 r.2.2]).toArray
def tabWorld (T:Lib.RTab) (w:World):World:=(w.alloc (.cells (rgCells T.r16) 229)).alloc (.cells #[.slice (some ⟨w.heap.size,0,none⟩) T.r16.size T.r16.size,.slice none 0 0,.int .i64 0] 226)
end Go.Proofs.YtkjnockljapnbaaGreatDoor
namespace Go.Proofs.YtkjnockljapnbaaGreatDoor
open Go Go.RowKit
theorem first_c (w:World):Calls Tryz.prog 82 #[] w fun e w'=>e=.returned (.pointer (some ⟨(w.alloc (.cells (rgCells firstT.r16) 229)).heap.size,0,none⟩))∧w'=tabWorld firstT w:=
  calls_run 0 Tryz.func82 rfl rfl (by kernel_rfl)
end Go.Proofs.YtkjnockljapnbaaGreatDoor
namespace Go.Proofs.YtkjnockljapnbaaGreatDoor
open Go Go.RowKit
theorem second_c (w:World):Calls Tryz.prog 83 #[] w fun e w'=>e=.returned (.pointer (some ⟨(w.alloc (.cells (rgCells secondT.r16) 229)).heap.size,0,none⟩))∧w'=tabWorld secondT w:=
  calls_run 0 Tryz.func83 rfl rfl (by kernel_rfl)
end Go.Proofs.YtkjnockljapnbaaGreatDoor
namespace Go.Proofs.YtkjnockljapnbaaGreatDoor
open Go Go.RowKit
theorem rgCells_at:∀ (T:List Lib.Rg) (i:Nat),i < T.length → ∀ j,j < 3 → (T.flatMap fun r=>[Value.int .u16 r.1,.int .u16 r.2.1,.int .u16 r.2.2])[i * 3 + j]?=([Value.int .u16 (T.getD i (0,0,0)).1,.int .u16 (T.getD i (0,0,0)).2.1,.int .u16 (T.getD i (0,0,0)).2.2])[j]?
  | [],i,hi,_,_=>by simp at hi
  | r :: T,0,_,j,hj=>by
    simp only [List.flatMap_cons,Nat.zero_mul,Nat.zero_add]
    rw [List.getElem?_append_left (by simpa using hj)]
    simp
  | r :: T,i + 1,hi,j,hj=>by
    simp only [List.flatMap_cons]
    rw [List.getElem?_append_right (by simp;omega),show (i + 1) * 3 + j - [Value.int .u16 r.1,.int .u16 r.2.1,.int .u16 r.2.2].length=i * 3 + j by simp;omega,rgCells_at T i (by simpa using hi) j hj]
    simp
theorem tab_at (T:Lib.RTab) (h32:T.r32=#[]) (hoff:T.off=0) (w:World):Lib.RTabAt (w.alloc (.cells (rgCells T.r16) 229)).heap.size 0 T (tabWorld T w):=by
  have h1:Blk (tabWorld T w) (w.alloc (.cells (rgCells T.r16) 229)).heap.size #[.slice (some ⟨w.heap.size,0,none⟩) T.r16.size T.r16.size,.slice none 0 0,.int .i64 0] 226:=Blk.new _ _ _
  have h2:Blk (tabWorld T w) w.heap.size (rgCells T.r16) 229:=(Blk.new w (rgCells T.r16) _).alloc _
  refine ⟨some ⟨w.heap.size,0,none⟩,none,w.heap.size,0,T.r16.size,0,0,0,by rw [h1.cell];rfl,by rw [h1.cell,h32];rfl,by rw [h1.cell,hoff];rfl,fun _=>rfl,fun h=>by rw [h32] at h;simp at h,?_,fun i hi=>by rw [h32] at hi;simp at hi,Nat.le_refl _⟩
  intro i hi
  have hi':i < T.r16.toList.length:=by simpa using hi
  have e:=fun j hj=>rgCells_at T.r16.toList i hi' j hj
  have g:T.r16.toList.getD i (0,0,0)=T.r16.getD i (0,0,0):=by simp [Array.getD,List.getD_eq_getElem?_getD,hi]
  rw [g] at e
  refine ⟨?_,?_,?_⟩
  · rw [h2.cell];have:=e 0 (by omega);simpa [rgCells] using this
  · rw [h2.cell];have:=e 1 (by omega);simpa [rgCells,Nat.add_assoc] using this
  · rw [h2.cell];have:=e 2 (by omega);simpa [rgCells,Nat.add_assoc] using this
theorem rgOk_of (B:Nat) (T:Array Lib.Rg) (h:T.toList.all (fun r=>decide (r.1 < B) && decide (r.2.1 < B) && decide (r.2.2 < B) && decide (1 ≤ r.2.2))=true):Lib.RgOk B T:=by
  intro i hi
  have hm:T.getD i (0,0,0) ∈ T.toList:=by simp [Array.getD,hi]
  have:=List.all_eq_true.1 h _ hm
  simp only [Bool.and_eq_true,decide_eq_true_eq] at this
  exact ⟨this.1.1.1,this.1.1.2,this.1.2,this.2⟩
theorem first_ok:Lib.RTabOk firstT:=⟨rgOk_of _ _ (by kernel_rfl),rgOk_of _ _ rfl,by show (firstT.r16.size ≤ _);rw [show firstT.r16.size=190 by kernel_rfl];omega,by show (0:Nat) ≤ _;omega,by show (0:Nat) < _;omega,by show (0:Nat) ≤ _;omega⟩
theorem second_ok:Lib.RTabOk secondT:=⟨rgOk_of _ _ (by kernel_rfl),rgOk_of _ _ rfl,by show (secondT.r16.size ≤ _);rw [show secondT.r16.size=112 by kernel_rfl];omega,by show (0:Nat) ≤ _;omega,by show (0:Nat) < _;omega,by show (0:Nat) ≤ _;omega⟩
theorem tabWorld_below (T:Lib.RTab) (w:World):Below w.heap.size w (tabWorld T w):=((Below.refl w.heap.size w).alloc (Nat.le_refl _) _).alloc (by simp) _
theorem first_t (w:World):Calls Tryz.prog 82 #[] w fun e w'=>∃ Tb,e=.returned (.pointer (some ⟨Tb,0,none⟩))∧Lib.RTabAt Tb 0 firstT w'∧Below w.heap.size w w':=
  (first_c w).mono fun e w' ⟨he,hw⟩=>⟨_,he,by rw [hw];exact tab_at _ rfl rfl w,by rw [hw];exact tabWorld_below _ w⟩
theorem second_t (w:World):Calls Tryz.prog 83 #[] w fun e w'=>∃ Tb,e=.returned (.pointer (some ⟨Tb,0,none⟩))∧Lib.RTabAt Tb 0 secondT w'∧Below w.heap.size w w':=
  (second_c w).mono fun e w' ⟨he,hw⟩=>⟨_,he,by rw [hw];exact tab_at _ rfl rfl w,by rw [hw];exact tabWorld_below _ w⟩
end Go.Proofs.YtkjnockljapnbaaGreatDoor
