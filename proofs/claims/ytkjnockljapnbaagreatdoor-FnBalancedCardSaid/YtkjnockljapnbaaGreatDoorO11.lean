/- Part of the proof that laws.FnBalanced returns true for every argument (Cl, Zz, Ns, Nv, Cr, Po, En). No condition of its own. -/
import Derived.Test.YtkjnockljapnbaaGreatDoorO04
import Derived.Test.YtkjnockljapnbaaGreatDoorO10
import Derived.Shelf.Pu.Clone
import Derived.Laws.ResultCell
set_option linter.all false
set_option maxHeartbeats 8000000
set_option maxRecDepth 100000
namespace Go.Proofs.YtkjnockljapnbaaGreatDoor
open Go Go.RowKit
def cl_ren:Go.Shelf.Ren:=⟨fun|25=>101|n=>n,
  fun|0=>0|3=>3|4=>4|5=>5|9=>9|37=>74|47=>248|n=>n,
  fun|n=>n⟩
theorem cl_lays:Go.Proofs.LaysPu.n25 Tryz.prog cl_ren:={
  mixed:=by first|kernel_rfl|(intro w;kernel_rfl)|(intro w;rfl)|decide,
  f25:=by first|kernel_rfl|(intro w;kernel_rfl)|(intro w;rfl)|decide,
  t0:=by first|kernel_rfl|(intro w;kernel_rfl)|(intro w;rfl)|decide,a0:=by first|kernel_rfl|(intro w;kernel_rfl)|(intro w;rfl)|decide,z0:=by first|kernel_rfl|(intro w;kernel_rfl)|(intro w;rfl)|decide,v0:=by first|kernel_rfl|(intro w;kernel_rfl)|(intro w;rfl)|decide,i0:=by first|kernel_rfl|(intro w;kernel_rfl)|(intro w;rfl)|decide,
  t3:=by first|kernel_rfl|(intro w;kernel_rfl)|(intro w;rfl)|decide,a3:=by first|kernel_rfl|(intro w;kernel_rfl)|(intro w;rfl)|decide,z3:=by first|kernel_rfl|(intro w;kernel_rfl)|(intro w;rfl)|decide,v3:=by first|kernel_rfl|(intro w;kernel_rfl)|(intro w;rfl)|decide,i3:=by first|kernel_rfl|(intro w;kernel_rfl)|(intro w;rfl)|decide,
  t4:=by first|kernel_rfl|(intro w;kernel_rfl)|(intro w;rfl)|decide,a4:=by first|kernel_rfl|(intro w;kernel_rfl)|(intro w;rfl)|decide,z4:=by first|kernel_rfl|(intro w;kernel_rfl)|(intro w;rfl)|decide,v4:=by first|kernel_rfl|(intro w;kernel_rfl)|(intro w;rfl)|decide,i4:=by first|kernel_rfl|(intro w;kernel_rfl)|(intro w;rfl)|decide,
  t5:=by first|kernel_rfl|(intro w;kernel_rfl)|(intro w;rfl)|decide,a5:=by first|kernel_rfl|(intro w;kernel_rfl)|(intro w;rfl)|decide,z5:=by first|kernel_rfl|(intro w;kernel_rfl)|(intro w;rfl)|decide,v5:=by first|kernel_rfl|(intro w;kernel_rfl)|(intro w;rfl)|decide,i5:=by first|kernel_rfl|(intro w;kernel_rfl)|(intro w;rfl)|decide,
  t9:=by first|kernel_rfl|(intro w;kernel_rfl)|(intro w;rfl)|decide,a9:=by first|kernel_rfl|(intro w;kernel_rfl)|(intro w;rfl)|decide,z9:=by first|kernel_rfl|(intro w;kernel_rfl)|(intro w;rfl)|decide,v9:=by first|kernel_rfl|(intro w;kernel_rfl)|(intro w;rfl)|decide,i9:=by first|kernel_rfl|(intro w;kernel_rfl)|(intro w;rfl)|decide,
  t37:=by first|kernel_rfl|(intro w;kernel_rfl)|(intro w;rfl)|decide,a37:=by first|kernel_rfl|(intro w;kernel_rfl)|(intro w;rfl)|decide,z37:=by first|kernel_rfl|(intro w;kernel_rfl)|(intro w;rfl)|decide,v37:=by first|kernel_rfl|(intro w;kernel_rfl)|(intro w;rfl)|decide,i37:=by first|kernel_rfl|(intro w;kernel_rfl)|(intro w;rfl)|decide,
  t47:=by first|kernel_rfl|(intro w;kernel_rfl)|(intro w;rfl)|decide,a47:=by first|kernel_rfl|(intro w;kernel_rfl)|(intro w;rfl)|decide,z47:=by first|kernel_rfl|(intro w;kernel_rfl)|(intro w;rfl)|decide,v47:=by first|kernel_rfl|(intro w;kernel_rfl)|(intro w;rfl)|decide,i47:=by first|kernel_rfl|(intro w;kernel_rfl)|(intro w;rfl)|decide }
theorem clone_c (s:ByteArray) (w:World) (hlim:s.size ≤ 281474976710656) :
    Calls Tryz.prog 101 #[.string s] w fun e w'=>e=.returned (.string s)∧Below w.heap.size w w':=
  AnyPu.stringslite_Clone cl_lays s w hlim
abbrev errV (a:Addr):Value:=.iface 177 (.pointer (some a))
def NumErrs (w:World):Prop:=(∃ a,w.cell? ⟨8,0,none⟩=some (errV a))∧∃ a,w.cell? ⟨9,0,none⟩=some (errV a)
theorem NumErrs.below {w w':World} {B:Nat} (h:NumErrs w) (h1:8 < B) (h2:9 < B) (hb:Below B w w'):NumErrs w':=by
  obtain ⟨⟨u,hu⟩,⟨v,hv⟩⟩:=h
  exact ⟨⟨u,by rw [hb.cell (p:=⟨_,0,none⟩) h1];exact hu⟩,⟨v,by rw [hb.cell (p:=⟨_,0,none⟩) h2];exact hv⟩⟩
def NumPtr (w:World) (e:Ending) (w':World):Prop:=(∃ a,e=.returned (.pointer (some a)))∧Below w.heap.size w w'
theorem numSyn (fn s:ByteArray) (w:World) (hs:s.size ≤ 1000000000) (a:Addr) (hv:w.cell? ⟨8,0,none⟩=some (errV a)) (hg:8 < w.heap.size) :
    Calls Tryz.prog 93 #[.string fn,.string s] w (NumPtr w):=by
  have hcl:=Lib.hid (fun w=>clone_c s w (by omega))
  have HV:=Lib.hid hv
  go_enter Tryz.func93,Tryz.ntmps93
  go_wp2
  go_region_held3 (fun w'=>w'.cell? ⟨8,0,none⟩=some (errV a))
    (first|go_keep|(show w1.cell? ⟨8,0,none⟩=some (errV a);rw [hb.cell (p:=⟨_,0,none⟩) hg];exact HV.out))
    (first|(go_at_call 101;refine (hcl.out _).mono ?_;rintro e w1 ⟨rfl,hb⟩))
  go_wp2
  go_ret
  exact ⟨⟨_,rfl⟩,(show Below w.heap.size w w1 from ⟨hb.os,hb.tape,hb.output,hb.size,hb.block⟩).alloc hb.size _⟩
theorem numRan (fn s:ByteArray) (w:World) (hs:s.size ≤ 1000000000) (a:Addr) (hv:w.cell? ⟨9,0,none⟩=some (errV a)) (hg:9 < w.heap.size) :
    Calls Tryz.prog 94 #[.string fn,.string s] w (NumPtr w):=by
  have hcl:=Lib.hid (fun w=>clone_c s w (by omega))
  have HV:=Lib.hid hv
  go_enter Tryz.func94,Tryz.ntmps94
  go_wp2
  go_region_held3 (fun w'=>w'.cell? ⟨9,0,none⟩=some (errV a))
    (first|go_keep|(show w1.cell? ⟨9,0,none⟩=some (errV a);rw [hb.cell (p:=⟨_,0,none⟩) hg];exact HV.out))
    (first|(go_at_call 101;refine (hcl.out _).mono ?_;rintro e w1 ⟨rfl,hb⟩))
  go_wp2
  go_ret
  exact ⟨⟨_,rfl⟩,(show Below w.heap.size w w1 from ⟨hb.os,hb.tape,hb.output,hb.size,hb.block⟩).alloc hb.size _⟩
theorem eqNum22 (w:World):(binOp .eql 55 (.iface 218 (.int .i64 2)) (.iface 218 (.int .i64 2))).run Tryz.prog w=.ok (.bool true) w:=by kernel_rfl
theorem eqNum12 (w:World):(binOp .eql 55 (.iface 218 (.int .i64 1)) (.iface 218 (.int .i64 2))).run Tryz.prog w=.ok (.bool false) w:=by kernel_rfl
theorem eqNum11 (w:World):(binOp .eql 55 (.iface 218 (.int .i64 1)) (.iface 218 (.int .i64 1))).run Tryz.prog w=.ok (.bool true) w:=by kernel_rfl
def AnErr (w:World) (e:Ending) (w':World):Prop:=(∃ t v,e=.returned (.iface t v))∧Below w.heap.size w w'
theorem toError_c (k:Int) (hk:k=1 ∨ k=2) (fn s:ByteArray) (base:Int) (w:World) (hs:s.size ≤ 1000000000) (hn:NumErrs w) (h1:8 < w.heap.size) (h2:9 < w.heap.size) :
    Calls Tryz.prog 79 #[.string fn,.string s,.int .i64 base,.int .i64 64,.iface 218 (.int .i64 k)] w (AnErr w):=by
  obtain ⟨⟨u,hu⟩,⟨v,hv⟩⟩:=hn
  have ha:=Lib.hid (numSyn fn s w hs u hu h1)
  have hb:=Lib.hid (numRan fn s w hs v hv h2)
  clear hu hv h1 h2
  have q22:=eqNum22
  have q12:=eqNum12
  have q11:=eqNum11
  rcases hk with rfl|rfl
  · go_enter Tryz.func79,Tryz.ntmps79
    go_wp2_with fail
    refine hb.out.mono ?_
    rintro e w1 ⟨⟨a,rfl⟩,hw⟩
    have HW:=Lib.hid hw
    clear hw
    go_wp2
    go_ret
    exact ⟨⟨_,_,rfl⟩,HW.out⟩
  · go_enter Tryz.func79,Tryz.ntmps79
    go_wp2_with fail
    refine ha.out.mono ?_
    rintro e w1 ⟨⟨a,rfl⟩,hw⟩
    have HW:=Lib.hid hw
    clear hw
    go_wp2
    go_ret
    exact ⟨⟨_,_,rfl⟩,HW.out⟩
def PuFin (hex:Bool) (ds:Bs) (en:Ending):Prop:=
  if ds=[] ∨ 18446744073709551616 ≤ numVal hex ds then ∃ n t u,en=.returned (.tuple #[.int .u64 n,.iface t u]) else en=.returned (.tuple #[.int .u64 (numVal hex ds),.nilIface])
theorem parseUint_c (hex:Bool) (ds:Bs) (hd:∀ b ∈ ds,isDig hex b=true) (hl:ds.length ≤ 1000000000) (w:World) (hn:NumErrs w) (h1:8 < w.heap.size) (h2:9 < w.heap.size) :
    Calls Tryz.prog 60 #[strL ds,.int .i64 (if hex then 16 else 10),.int .i64 64] w fun en w'=>PuFin hex ds en∧Below w.heap.size w w':=by
  have hin:=Lib.hid (parseUintI_c hex ds hd hl w)
  have HT:=Lib.hid (fun (k:Int) (hk:k=1 ∨ k=2) (fn:ByteArray) (base:Int) (w':World) (hb:Below w.heap.size w w')=>toError_c k hk fn ⟨ds.toArray⟩ base w' (by show ds.length ≤ _;omega) (hn.below h1 h2 hb) (Nat.lt_of_lt_of_le h1 hb.size) (Nat.lt_of_lt_of_le h2 hb.size))
  clear hn h1 h2 hd
  obtain ⟨base,hbase⟩:∃ base:Int,base=if hex then 16 else 10:=⟨_,rfl⟩
  rw [← hbase] at hin ⊢
  clear hbase
  go_enter Tryz.func60,Tryz.ntmps60
  go_wp2_with fail
  refine hin.out.mono ?_
  rintro e w1 ⟨hp,hw⟩
  unfold PuPost at hp
  by_cases hc:ds=[] ∨ 18446744073709551616 ≤ numVal hex ds
  · rw [if_pos hc] at hp
    obtain ⟨n,k,rfl,hk⟩:=hp
    have HC:=Lib.hid hc
    have HW:=Lib.hid hw
    have ht:=Lib.hid (fun (fn:ByteArray) (base:Int)=>HT.out k hk fn base w1 hw)
    clear hc hw hk
    go_wp2_with fail
    refine (ht.out _ _).mono ?_
    rintro e2 w2 ⟨⟨t,u,rfl⟩,hw2⟩
    have HW2:=Lib.hid hw2
    clear hw2
    go_wp2
    go_ret2
    refine ⟨?_,HW.out.trans (HW2.out.mono HW.out.size)⟩
    unfold PuFin
    rw [if_pos HC.out]
    exact ⟨_,_,_,rfl⟩
  · rw [if_neg hc] at hp
    subst hp
    have HC:=Lib.hid hc
    have HW:=Lib.hid hw
    clear hc hw
    go_wp2
    go_ret2
    refine ⟨?_,HW.out⟩
    unfold PuFin
    rw [if_neg HC.out]
    rfl
end Go.Proofs.YtkjnockljapnbaaGreatDoor
namespace Go.Proofs.YtkjnockljapnbaaGreatDoor
open Go Go.RowKit
def idxL (p:Bs):Bs → Option Nat
  | []=>if p=[] then some 0 else none
  | b :: r=>if p.isPrefixOf (b :: r) then some 0 else (idxL p r).map (· + 1)
def idxI (p l:Bs):Int:=match idxL p l with|none=>-1|some k=>k
theorem idxL_short (p:Bs):∀ l:Bs,l.length < p.length → idxL p l=none
  | [],h=>by unfold idxL;rw [if_neg (by intro e;subst e;simp at h)]
  | b :: r,h=>by
    unfold idxL
    rw [if_neg (by
      intro hp
      have:=(List.isPrefixOf_iff_prefix.1 hp).length_le
      omega),idxL_short p r (by simp at h;omega)]
    rfl
theorem idxL_hit (p l:Bs) (h:p.isPrefixOf l=true):idxL p l=some 0:=by
  cases l with
  | nil=>unfold idxL;rw [if_pos (by simpa using h)]
  | cons b r=>unfold idxL;rw [if_pos h]
theorem idxL_miss (p l:Bs) (h:p.isPrefixOf l=false) (hl:p.length ≤ l.length):idxL p l=(idxL p (l.drop 1)).map (· + 1):=by
  cases l with
  | nil=>
    have:p=[]:=by simpa using hl
    subst this;simp at h
  | cons b r => conv => lhs; unfold idxL
                rw [if_neg (by rw [h];simp)];rfl
theorem extract_pref (l p:Bs) (i:Nat):((⟨l.toArray⟩:ByteArray).extract i (i + p.length)=⟨p.toArray⟩) ↔ p.isPrefixOf (l.drop i)=true:=by
  rw [List.isPrefixOf_iff_prefix,List.prefix_iff_eq_take]
  have e:((⟨l.toArray⟩:ByteArray).extract i (i + p.length)).data.toList=(l.drop i).take p.length:=by
    rw [Lib.extract_data];simp
  constructor
  · intro h'
    rw [h'] at e
    simpa using e
  · intro h'
    apply ByteArray.ext
    apply Array.toList_inj.1
    rw [e,← h']
theorem zzIndex_c (l p:Bs) (w:World) (hl:l.length ≤ 1000000000000) (hp:p.length ≤ 1000000000000) (hp1:1 ≤ p.length) :
    Calls Tryz.prog 71 #[strV l,strV p] w fun en w'=>en=.returned (.int .i64 (idxI p l))∧w'=w:=by
  have hl':(l.length:Int) ≤ 1000000000000:=by omega
  have hp':(p.length:Int) ≤ 1000000000000:=by omega
  go_enter Tryz.func71,Tryz.ntmps71
  go_wp2
  go_loopg [5] (l.length + 1) (fun k iv wr=>∃ i:Nat,iv=.int .i64 i∧i + k=l.length + 1∧idxL p l=(idxL p (l.drop i)).map (· + i)∧wr=w)
  case atStart=>exact ⟨0,rfl,by omega,by simp,rfl⟩
  case round=>
    obtain ⟨i,rfl,hk,hid,rfl⟩:=hrel
    have HID:=Lib.hid hid
    have HK:=Lib.hid hk
    have q0:(0:Int) ≤ (i:Int):=by omega
    have q1:(i:Int) ≤ 1000000000001:=by omega
    clear hid hk
    have hc:((i:Int) + (p.length:Int) ≤ (l.length:Int)) ∨ ¬ ((i:Int) + (p.length:Int) ≤ (l.length:Int)):=by omega
    rcases hc with hc|hc
    · have hx:((⟨l.toArray⟩:ByteArray).extract i (i + p.length)=⟨p.toArray⟩) ∨ ¬ ((⟨l.toArray⟩:ByteArray).extract i (i + p.length)=⟨p.toArray⟩):=Classical.em _
      rcases hx with hx|hx
      · have hh:=(extract_pref l p i).1 hx
        have HR:=Lib.hid (show idxI p l=i by unfold idxI;rw [HID.out,idxL_hit _ _ hh];simp)
        go_wp2
        go_ret
        exact ⟨by rw [HR.out];rfl,rfl⟩
      · have hh:p.isPrefixOf (l.drop i)=false:=by
          rw [← Bool.not_eq_true];exact fun h=>hx ((extract_pref l p i).2 h)
        have HM:=Lib.hid (show idxL p l=(idxL p (l.drop (i + 1))).map (· + (i + 1)) by
          rw [HID.out,idxL_miss _ _ hh (by rw [List.length_drop];omega),Option.map_map,List.drop_drop]
          congr 1
          funext n
          simp;omega)
        have hx2:(((⟨l.toArray⟩:ByteArray).extract i (i + p.length)).toList == p)=false:=by
          rw [beq_eq_false_iff_ne]
          intro h
          apply hx
          apply ByteArray.ext
          apply Array.toList_inj.1
          rw [ByteArray.toList_eq] at h
          exact h.trans (by simp)
        clear hh hx
        go_wp2
        go_roundg (gk - 1)
        case measure=>have:=HK.out;omega
        case rel=>exact ⟨i + 1,by simp,by have:=HK.out;omega,HM.out,rfl⟩
    · have HR:=Lib.hid (show idxI p l=-1 by
        unfold idxI
        rw [HID.out,idxL_short _ _ (by rw [List.length_drop];omega)];rfl)
      go_wp2
      go_ret
      exact ⟨by rw [HR.out];rfl,rfl⟩
theorem ext_take (l:Bs) (k:Nat):(⟨l.toArray⟩:ByteArray).extract 0 k=⟨(l.take k).toArray⟩:=by
  apply ByteArray.ext
  apply Array.toList_inj.1
  rw [Lib.extract_data];simp
theorem ext_drop (l:Bs) (k:Nat):(⟨l.toArray⟩:ByteArray).extract k l.length=⟨(l.drop k).toArray⟩:=by
  apply ByteArray.ext
  apply Array.toList_inj.1
  rw [Lib.extract_data]
  simp [List.take_of_length_le]
theorem idxL_le (p:Bs):∀ (l:Bs) (k:Nat),idxL p l=some k → k + p.length ≤ l.length
  | [],k,h=>by
    unfold idxL at h
    split at h
    · rename_i hp;subst hp;simp only [Option.some.injEq] at h;subst h;simp
    · cases h
  | b :: r,k,h=>by
    unfold idxL at h
    split at h
    · rename_i hp
      simp only [Option.some.injEq] at h;subst h
      have:=(List.isPrefixOf_iff_prefix.1 hp).length_le
      omega
    · rw [Option.map_eq_some_iff] at h
      obtain ⟨j,hj,rfl⟩:=h
      have:=idxL_le p r j hj
      simp;omega
theorem zzCut_c (l p:Bs) (w:World) (hl:l.length ≤ 1000000000000) (hp:p.length ≤ 1000000000000) (hp1:1 ≤ p.length) :
    Calls Tryz.prog 68 #[strV l,strV p] w fun en w'=>∃ n,w'=w.drewN n ∧
      ((∃ k,idxL p l=some k∧en=.returned (.tuple #[strV (l.take k),strV (l.drop (k + p.length)),.bool true])) ∨ (idxL p l=none∧en=.returned (.tuple #[strV l,strV [],.bool false]))):=by
  have hi:=Lib.hid (zzIndex_c l p w hl hp hp1)
  cases hx:idxL p l with
  | none=>
    have hI:idxI p l=-1:=by unfold idxI;rw [hx]
    rw [hI] at hi
    have HXX:=Lib.hid hx
    clear hx hI
    go_enter Tryz.func68,Tryz.ntmps68
    go_wp2_with fail
    refine hi.out.mono ?_
    rintro e1 w1 ⟨rfl,rfl⟩
    go_wp2
    go_ret3
    exact ⟨0,rfl,Or.inr ⟨trivial,rfl⟩⟩
  | some k=>
    have hI:idxI p l=k:=by unfold idxI;rw [hx]
    rw [hI] at hi
    have hkl:=idxL_le p l k hx
    have q0:(0:Int) ≤ (k:Int):=by omega
    have q1:(k:Int) + (p.length:Int) ≤ (l.length:Int):=by omega
    have q2:(l.length:Int) ≤ 1000000000000:=by omega
    have q3:(k:Int) ≤ (l.length:Int):=by omega
    have HXX:=Lib.hid hx
    clear hx hI
    go_enter Tryz.func68,Tryz.ntmps68
    go_wp2_with fail
    refine hi.out.mono ?_
    rintro e1 w1 ⟨rfl,rfl⟩
    go_wp2
    go_quiet (fail)
    go_wp2
    go_ret3
    refine ⟨nq,rfl,Or.inl ⟨k,rfl,?_⟩⟩
    simp only [strV]
    rw [← ext_take,← ext_drop];rfl
end Go.Proofs.YtkjnockljapnbaaGreatDoor
namespace Go.Proofs.YtkjnockljapnbaaGreatDoor
open Go Go.RowKit
theorem cnt_drop (l:Bs) (i:Nat) (hi:i < l.length):cntColon (l.drop i)=(if [(58:UInt8)].isPrefixOf (l.drop i) then 1 else 0) + cntColon (l.drop (i + 1)):=by
  rw [List.drop_eq_getElem_cons hi]
  unfold cntColon
  simp only [List.filter_cons,List.isPrefixOf,Bool.and_true]
  by_cases h:l[i]=58
  · simp [h];omega
  · have h':¬ (58:UInt8)=l[i]:=fun e=>h e.symm
    simp [h,h']
theorem cnt_end (l:Bs) (i:Nat) (hi:l.length ≤ i):cntColon (l.drop i)=0:=by
  rw [List.drop_eq_nil_of_le hi];rfl
theorem cnt_le (l:Bs):cntColon l ≤ l.length:=List.length_filter_le _ _
theorem zzCount_c (l:Bs) (w:World) (hl:l.length ≤ 1000000000000) :
    Calls Tryz.prog 67 #[strV l,strV [58]] w fun en w'=>en=.returned (.int .i64 (cntColon l))∧w'=w:=by
  have hl':(l.length:Int) ≤ 1000000000000:=by omega
  go_enter Tryz.func67,Tryz.ntmps67
  go_wp2
  go_loopg [5,6] (l.length + 1) (fun k nv iv wr=>∃ n i:Nat,nv=.int .i64 n∧iv=.int .i64 i∧i + k=l.length + 1∧n + cntColon (l.drop i)=cntColon l∧wr=w)
  case atStart=>exact ⟨0,0,rfl,rfl,by omega,by simp,rfl⟩
  case round=>
    obtain ⟨n,i,rfl,rfl,hk,hid,rfl⟩:=hrel
    have HID:=Lib.hid hid
    have HK:=Lib.hid hk
    have q0:(0:Int) ≤ (i:Int):=by omega
    have q1:(i:Int) ≤ 1000000000001:=by omega
    have q2:(n:Int) ≤ 1000000000000:=by have:=cnt_le l;omega
    have q3:(0:Int) ≤ (n:Int):=by omega
    clear hid hk
    have hc:((i:Int) + 1 ≤ (l.length:Int)) ∨ ¬ ((i:Int) + 1 ≤ (l.length:Int)):=by omega
    rcases hc with hc|hc
    · have HD:=Lib.hid (cnt_drop l i (by omega))
      have hx:((⟨l.toArray⟩:ByteArray).extract i (i + 1)=⟨[(58:UInt8)].toArray⟩) ∨ ¬ ((⟨l.toArray⟩:ByteArray).extract i (i + 1)=⟨[(58:UInt8)].toArray⟩):=Classical.em _
      rcases hx with hx|hx
      · have hh:=(extract_pref l [58] i).1 hx
        have HH:=Lib.hid (show n + 1 + cntColon (l.drop (i + 1))=cntColon l by
          have h1:=HID.out
          have h2:=HD.out
          rw [if_pos hh] at h2
          omega)
        clear hh
        go_wp2
        go_roundg (gk - 1)
        case measure=>have:=HK.out;omega
        case rel=>exact ⟨n + 1,i + 1,by simp,by simp,by have:=HK.out;omega,HH.out,rfl⟩
      · have hh:[(58:UInt8)].isPrefixOf (l.drop i)=false:=by
          rw [← Bool.not_eq_true];exact fun h=>hx ((extract_pref l [58] i).2 h)
        have HH:=Lib.hid (show n + cntColon (l.drop (i + 1))=cntColon l by
          have h1:=HID.out
          have h2:=HD.out
          rw [if_neg (by rw [hh];simp)] at h2
          omega)
        have hx2:(((⟨l.toArray⟩:ByteArray).extract i (i + 1)).toList == [(58:UInt8)])=false:=by
          rw [beq_eq_false_iff_ne]
          intro h
          apply hx
          apply ByteArray.ext
          apply Array.toList_inj.1
          rw [ByteArray.toList_eq] at h
          exact h.trans (by simp)
        clear hh hx
        go_wp2
        go_roundg (gk - 1)
        case measure=>have:=HK.out;omega
        case rel=>exact ⟨n,i + 1,rfl,by simp,by have:=HK.out;omega,HH.out,rfl⟩
    · have HR:=Lib.hid (show cntColon l=n by
        have:=HID.out
        rw [cnt_end l i (by omega)] at this
        omega)
      go_wp2
      go_ret
      exact ⟨by rw [HR.out];rfl,rfl⟩
end Go.Proofs.YtkjnockljapnbaaGreatDoor
namespace Go.Proofs.YtkjnockljapnbaaGreatDoor
open Go Go.RowKit
abbrev nameV (n:Bs × Bs):Value:=.agg #[strV n.1,strV n.2]
def NsPost (x:Cx) (c:DC) (w':World) (v':DV) (en:Ending):Except EK ((Bs × Bs) × Bs) → Prop
  | .error k=>∃ nm,en=.returned (.tuple #[nameV nm,.bool false])∧NoName x c w' v' k
  | .ok (nm,r)=>en=.returned (.tuple #[nameV nm,.bool true])∧∃ b,b ≠ []∧RdS x c w' v' r none b
theorem idx_colon:∀ s:Bs,idxL [58] s=(match s.dropWhile (· != 58) with|[]=>none|_ :: _=>some (s.takeWhile (· != 58)).length)
  | []=>by simp [idxL]
  | b :: r=>by
    unfold idxL
    by_cases h:b=58
    · subst h;simp [List.isPrefixOf]
    · have h':¬ (58:UInt8)=b:=fun e=>h e.symm
      rw [if_neg (by simp [List.isPrefixOf,h']),idx_colon r]
      simp only [List.dropWhile_cons,List.takeWhile_cons,bne_iff_ne,ne_eq,h,not_false_eq_true,if_true]
      cases r.dropWhile (· != 58) <;> simp
theorem RdS.s1lt {x:Cx} {c:DC} {w:World} {v:DV} {rest:Bs} {e:Option EK} {buf:Bs} (h:RdS x c w v rest e buf) (k:Nat) (hk:x.S1 v k):k < w.heap.size:=by
  rcases hk with hk|hk
  · exact h.s0lt k hk
  · rcases h.bf with ⟨hv,_⟩|⟨g,cap,arr,hv,hg,_⟩
    · rw [hv] at hk;exact hk.elim
    · rw [hv] at hk
      have:k=g:=hk
      subst this;exact hg.lt
theorem RdS.mod {x:Cx} {c:DC} {w w':World} {v:DV} {rest:Bs} {e:Option EK} {buf:Bs} {S:Nat → Prop} (h:RdS x c w v rest e buf) (hm:Mod S w w') (hS:∀ k,x.S1 v k → ¬ S k) (hB:∀ k,S k → x.B ≤ k):RdS x c w' v rest e buf:=by
  obtain ⟨un,hun,hu⟩:=h.inp
  exact ⟨Mod.below h.base h.base.size hm hB,Blk.mod h.dec hm (hS _ (Or.inl (Or.inl rfl))),⟨un,hun.mod hm (hS _ (Or.inl (Or.inr (Or.inl rfl)))) (hS _ (Or.inl (Or.inr (Or.inr (Or.inl rfl))))) (hS _ (Or.inl (Or.inr (Or.inr (Or.inr rfl))))),hu⟩,h.pos,h.err,h.fin,h.bf.mod hm (fun k hk=>hS _ (Or.inr hk))⟩
theorem Stp.new {x:Cx} {w w1 w2:World} {v v1:DV} {q:Nat} (h:Stp x w v w1 v1) (hq:w.heap.size ≤ q) (hm:Mod (fun k=>k=q) w1 w2):Stp x w v w2 v1:=
  ⟨h.mod.trans hm (fun i hi hs=>by omega),h.buf⟩
theorem nameL_len {f:Bool} {rest s r:Bs} (h:nameL f rest=.ok (s,r)):s.length ≤ rest.length:=by
  unfold nameL at h
  have:=spanName_sum rest
  split at h
  · cases h
  · split at h
    · cases h
    · split at h
      · simp only [Except.ok.injEq] at h
        rw [h] at this
        simp only at this;omega
      · cases h
theorem nameL_ne {f:Bool} {l n r:Bs} (h:nameL f l=.ok (n,r)):n ≠ []:=by
  unfold nameL at h
  split at h
  · cases h
  · split at h
    · cases h
    · rename_i h2
      split at h
      · simp only [Except.ok.injEq] at h
        rw [h] at h2
        exact h2
      · cases h
theorem nsname_c (x:Cx) (hx:x.Fit) (c:DC) (hdc:DcOk x c) (w:World) (v:DV) (rest:Bs) (e:Option EK) (buf:Bs) (h:RdS x c w v rest e buf) :
    Calls Tryz.prog 39 #[.pointer (some ⟨x.d,0,none⟩)] w fun en w'=>∃ v',Stp x w v w' v'∧NsPost x c w' v' en (nsnameL x.o.fails rest):=by
  have HX:=Lib.hid hx
  have HLL:=Lib.hid (show rest.length ≤ 1000000000 from Nat.le_trans (h.suf.length_le) hx.len)
  have hb1:Below w.heap.size w (w.alloc (.cells #[.string ⟨#[]⟩,.string ⟨#[]⟩] 82)):=(Below.refl _ w).alloc (Nat.le_refl _) _
  have h1:=h.below hx.toOk hb1
  have hnm:=Lib.hid (name_c x hx c hdc _ v rest e buf h1)
  have hq:=Blk.new w #[.string ⟨#[]⟩,.string ⟨#[]⟩] 82
  have HQ:=Lib.hid (fun (w2:World) (v2:DV) (hs:Stp x (w.alloc (.cells #[.string ⟨#[]⟩,.string ⟨#[]⟩] 82)) v w2 v2)=>hq.mod hs.mod (fun hk=>Nat.lt_irrefl _ (h.s1lt _ hk)))
  have HB1:=Lib.hid hb1
  have HF:=Lib.hid (fun (w2:World) (v2:DV) (hs:Stp x (w.alloc (.cells #[.string ⟨#[]⟩,.string ⟨#[]⟩] 82)) v w2 v2)=>(show Stp x w v w2 v2 from (Stp.refl x w v).s0 (mod_none hb1 _) rfl |>.trans hs))
  have HSQ:=Lib.hid (fun (v2:DV) {w2:World} (hs:Stp x (w.alloc (.cells #[.string ⟨#[]⟩,.string ⟨#[]⟩] 82)) v w2 v2) (k:Nat) (hk:x.S1 v2 k)=>(show ¬ k=w.heap.size from fun e=>by
    subst e
    rcases hk with hk|hk
    · exact Nat.lt_irrefl _ (h.s0lt _ hk)
    · rcases hs.buf _ hk with hk|hk
      · exact Nat.lt_irrefl _ (h.s1lt _ (Or.inr hk))
      · simp at hk;omega))
  have H:=Lib.hid h
  have hcq:=hq.cell
  have hfq:=hq.frozen
  clear h h1 hq hb1 hx hdc
  go_enter Tryz.func39,Tryz.ntmps39
  go_wp2_with fail
  refine hnm.out.mono ?_
  rintro e2 w2 ⟨v2,hs2,hp2⟩
  have hq2:=HQ.out w2 v2 hs2
  have HS2:=Lib.hid hs2
  have hcq:=hq2.cell
  have hfq:=hq2.frozen
  have HQ2:=Lib.hid hq2
  clear hs2 hq2 hnm
  cases hn:nameL x.o.fails rest with
  | error k=>
    rw [hn] at hp2
    obtain ⟨rfl,hp2⟩:=hp2
    have HP:=Lib.hid hp2
    have HN:=Lib.hid (show nsnameL x.o.fails rest=.error k by unfold nsnameL;rw [hn])
    clear hp2 hn
    go_wp2
    refine bodyPost_ret (v:=.tuple #[nameV ([],[]),.bool false]) (by rw [results_cell_tmp rfl];go_simp) rfl ?_
    refine ⟨v2,HF.out _ _ HS2.out,?_⟩
    rw [HN.out]
    exact ⟨([],[]),rfl,HP.out⟩
  | ok sr=>
    obtain ⟨s,r⟩:=sr
    rw [hn] at hp2
    obtain ⟨rfl,hr⟩:=hp2
    have hll:s.length ≤ 1000000000000:=by
      have h1:=HLL.out
      have h2:=spanName_sum rest
      have h3:=nameL_len hn
      omega
    have HR:=Lib.hid hr
    have HNE:=Lib.hid (nameL_ne hn)
    have hcnt:=Lib.hid (zzCount_c s w2 hll)
    have hcut:=Lib.hid (zzCut_c s [58] w2 hll (by simp) (by simp))
    have HN:=Lib.hid (show nsnameL x.o.fails rest=if 1 < cntColon s then .error .syn else .ok (splitName s,r) by unfold nsnameL;rw [hn])
    clear hr hn
    have hc:((1:Int) < (cntColon s:Int)) ∨ ¬ ((1:Int) < (cntColon s:Int)):=by omega
    rcases hc with hc|hc
    · have HN2:=Lib.hid (show nsnameL x.o.fails rest=.error .syn by rw [HN.out,if_pos (by omega)])
      go_wp2_with fail
      refine hcnt.out.mono ?_
      rintro e3 w3 ⟨rfl,rfl⟩
      go_wp2
      refine bodyPost_ret (v:=.tuple #[nameV ([],[]),.bool false]) (by rw [results_cell_tmp rfl];go_simp) rfl ?_
      have hm:=((Mod.refl (fun k=>k=w.heap.size) w3).setCell (p:=⟨w.heap.size,0,none⟩) (Or.inl rfl) (.string ⟨#[]⟩)).setCell (p:=⟨w.heap.size,1,none⟩) (Or.inl rfl) (.string ⟨#[]⟩)
      refine ⟨v2,(HF.out _ _ HS2.out).new (Nat.le_refl _) hm,?_⟩
      rw [HN2.out]
      exact ⟨([],[]),rfl,Or.inr ⟨rfl,r,s,HR.out.mod hm (HSQ.out _ HS2.out) (fun k hk=>by rw [hk];exact H.out.base.size)⟩⟩
    · have HN2:=Lib.hid (show nsnameL x.o.fails rest=.ok (splitName s,r) by rw [HN.out,if_neg (by omega)])
      have HIX:=Lib.hid (idx_colon s)
      go_wp2_with fail
      refine hcnt.out.mono ?_
      rintro e3 w3 ⟨rfl,rfl⟩
      go_wp2_with fail
      refine hcut.out.mono ?_
      rintro e4 w4 ⟨n,rfl,hq4⟩
      rcases hq4 with ⟨k,hk,rfl⟩|⟨hk,rfl⟩
      · have hsp:(s.take k=[] ∨ s.drop (k + 1)=[] → splitName s=([],s))∧(¬ (s.take k=[] ∨ s.drop (k + 1)=[]) → splitName s=(s.take k,s.drop (k + 1))):=by
          have:=HIX.out
          rw [hk] at this
          unfold splitName
          cases hd:s.dropWhile (· != 58) with
          | nil=>rw [hd] at this;cases this
          | cons a t=>
            rw [hd] at this
            simp only [Option.some.injEq] at this
            have e1:s=s.takeWhile (· != 58) ++ a :: t:=by rw [← hd];simp
            have e2:s.takeWhile (· != 58)=s.take k:=by
              conv=>rhs;rw [e1]
              rw [this];simp
            have e3:t=s.drop (k + 1):=by
              conv=>rhs;rw [e1]
              rw [this];simp
            simp only
            rw [e2,e3]
            constructor
            · intro h;rw [if_pos h]
            · intro h;rw [if_neg h]
        have HSP:=Lib.hid hsp
        clear hk hsp
        have hcs:((s.take k == [])=true) ∨ ((s.take k == [])=false∧(s.drop (k + 1) == [])=true) ∨ ((s.take k == [])=false∧(s.drop (k + 1) == [])=false):=by
          cases (s.take k == []) <;> cases (s.drop (k + 1) == []) <;> simp
        rcases hcs with h1|⟨h1,h2⟩|⟨h1,h2⟩
        · have HSP2:=Lib.hid (HSP.out.1 (Or.inl (by simpa using h1)))
          go_wp2
          refine bodyPost_ret (v:=.tuple #[nameV ([],s),.bool true]) (by rw [results_cell_tmp rfl];go_simp) rfl ?_
          have hm:=((((Mod.refl (fun k=>k=w.heap.size) w3).drewN n).setCell (p:=⟨w.heap.size,1,none⟩) (Or.inl rfl) (strV s)).setCell (p:=⟨w.heap.size,0,none⟩) (Or.inl rfl) (.string ⟨#[]⟩)).setCell (p:=⟨w.heap.size,1,none⟩) (Or.inl rfl) (strV s)
          refine ⟨v2,(HF.out _ _ HS2.out).new (Nat.le_refl _) hm,?_⟩
          rw [HN2.out,HSP2.out]
          exact ⟨rfl,s,HNE.out,HR.out.mod hm (HSQ.out _ HS2.out) (fun k hk=>by rw [hk];exact H.out.base.size)⟩
        · have HSP2:=Lib.hid (HSP.out.1 (Or.inr (by simpa using h2)))
          go_wp2
          refine bodyPost_ret (v:=.tuple #[nameV ([],s),.bool true]) (by rw [results_cell_tmp rfl];go_simp) rfl ?_
          have hm:=((((Mod.refl (fun k=>k=w.heap.size) w3).drewN n).setCell (p:=⟨w.heap.size,1,none⟩) (Or.inl rfl) (strV s)).setCell (p:=⟨w.heap.size,0,none⟩) (Or.inl rfl) (.string ⟨#[]⟩)).setCell (p:=⟨w.heap.size,1,none⟩) (Or.inl rfl) (strV s)
          refine ⟨v2,(HF.out _ _ HS2.out).new (Nat.le_refl _) hm,?_⟩
          rw [HN2.out,HSP2.out]
          exact ⟨rfl,s,HNE.out,HR.out.mod hm (HSQ.out _ HS2.out) (fun k hk=>by rw [hk];exact H.out.base.size)⟩
        · have HSP2:=Lib.hid (HSP.out.2 (by simp at h1 h2 ⊢;exact ⟨h1,h2⟩))
          go_wp2
          have hq5:=(((((show Blk (w3.drewN n) w.heap.size _ _ from HQ2.out).set 0 (strV (s.take k))).set 1 (strV (s.drop (k + 1)))).set 0 (strV (s.take k))).set 1 (strV (s.drop (k + 1)))).cell
          have hq50:=hq5 0
          have hq51:=hq5 1
          clear hq5
          refine bodyPost_ret (v:=.tuple #[nameV (s.take k,s.drop (k + 1)),.bool true]) (by rw [results_cell_tmp rfl];go_simp) rfl ?_
          have hm:=(((((Mod.refl (fun k=>k=w.heap.size) w3).drewN n).setCell (p:=⟨w.heap.size,0,none⟩) (Or.inl rfl) (strV (s.take k))).setCell (p:=⟨w.heap.size,1,none⟩) (Or.inl rfl) (strV (s.drop (k + 1)))).setCell (p:=⟨w.heap.size,0,none⟩) (Or.inl rfl) (strV (s.take k))).setCell (p:=⟨w.heap.size,1,none⟩) (Or.inl rfl) (strV (s.drop (k + 1)))
          refine ⟨v2,(HF.out _ _ HS2.out).new (Nat.le_refl _) hm,?_⟩
          rw [HN2.out,HSP2.out]
          exact ⟨rfl,s,HNE.out,HR.out.mod hm (HSQ.out _ HS2.out) (fun k hk=>by rw [hk];exact H.out.base.size)⟩
      · have hsp:splitName s=([],s):=by
          have:=HIX.out
          rw [hk] at this
          unfold splitName
          cases hd:s.dropWhile (· != 58) with
          | nil=>rfl
          | cons a t=>rw [hd] at this;cases this
        have HSP:=Lib.hid hsp
        clear hk hsp
        go_wp2
        refine bodyPost_ret (v:=.tuple #[nameV ([],s),.bool true]) (by rw [results_cell_tmp rfl];go_simp) rfl ?_
        have hm:=((((Mod.refl (fun k=>k=w.heap.size) w3).drewN n).setCell (p:=⟨w.heap.size,1,none⟩) (Or.inl rfl) (strV s)).setCell (p:=⟨w.heap.size,0,none⟩) (Or.inl rfl) (.string ⟨#[]⟩)).setCell (p:=⟨w.heap.size,1,none⟩) (Or.inl rfl) (strV s)
        refine ⟨v2,(HF.out _ _ HS2.out).new (Nat.le_refl _) hm,?_⟩
        rw [HN2.out,HSP.out]
        exact ⟨rfl,s,HNE.out,HR.out.mod hm (HSQ.out _ HS2.out) (fun k hk=>by rw [hk];exact H.out.base.size)⟩
end Go.Proofs.YtkjnockljapnbaaGreatDoor
namespace Go.Proofs.YtkjnockljapnbaaGreatDoor
open Go Go.RowKit
theorem inRange_iff (r:Nat):inRange r=true ↔ r=9 ∨ r=10 ∨ r=13 ∨ (32 ≤ r∧r ≤ 55295) ∨ (57344 ≤ r∧r ≤ 65533) ∨ (65536 ≤ r∧r ≤ 1114111):=by
  simp only [inRange,Bool.or_eq_true,Bool.and_eq_true,decide_eq_true_eq,beq_iff_eq]
  omega
theorem inRange_c (n:Nat) (w:World):Calls Tryz.prog 66 #[.int .i32 n] w fun e w'=>e=.returned (.bool (inRange n))∧w=w':=by
  have hA:=Lib.hid (inRange_iff n)
  have hsplit:n < 9 ∨ n=9 ∨ n=10 ∨ (11 ≤ n∧n ≤ 12) ∨ n=13 ∨ (14 ≤ n∧n ≤ 31) ∨ (32 ≤ n∧n ≤ 55295) ∨ (55296 ≤ n∧n ≤ 57343) ∨ (57344 ≤ n∧n ≤ 65533) ∨ (65534 ≤ n∧n ≤ 65535) ∨ (65536 ≤ n∧n ≤ 1114111) ∨ 1114112 ≤ n:=by omega
  rcases hsplit with h|h|h|h|h|h|h|h|h|h|h|h
  all_goals
    have HH:=Lib.hid h
    first|have:(32:Int) ≤ (n:Int):=by omega|have:¬ ((32:Int) ≤ (n:Int)):=by omega
    first|have:(n:Int) ≤ 55295:=by omega|have:¬ ((n:Int) ≤ 55295):=by omega
    first|have:(57344:Int) ≤ (n:Int):=by omega|have:¬ ((57344:Int) ≤ (n:Int)):=by omega
    first|have:(n:Int) ≤ 65533:=by omega|have:¬ ((n:Int) ≤ 65533):=by omega
    first|have:(65536:Int) ≤ (n:Int):=by omega|have:¬ ((65536:Int) ≤ (n:Int)):=by omega
    first|have:(n:Int) ≤ 1114111:=by omega|have:¬ ((n:Int) ≤ 1114111):=by omega
    first|have:(((n:Int)) == (9))=true:=by (simp;omega)|have:(((n:Int)) == (9))=false:=by (simp;omega)
    first|have:(((n:Int)) == (10))=true:=by (simp;omega)|have:(((n:Int)) == (10))=false:=by (simp;omega)
    first|have:(((n:Int)) == (13))=true:=by (simp;omega)|have:(((n:Int)) == (13))=false:=by (simp;omega)
    clear h
    go_enter Tryz.func66,Tryz.ntmps66
    go_wp2
    go_ret
    refine ⟨?_,rfl⟩
    have:=HH.out
    first
      | (rw [show inRange n=true from hA.out.2 (by omega)];rfl)
      | (rw [show inRange n=false from by
          rw [← Bool.not_eq_true];intro hh
          have:=hA.out.1 hh;omega];rfl)
end Go.Proofs.YtkjnockljapnbaaGreatDoor
namespace Go.Proofs.YtkjnockljapnbaaGreatDoor
open Go Go.RowKit
theorem inputOffset_c (x:Cx) (c:DC) (w:World) (v:DV) (h:DecAt w x.d c v) :
    Calls Tryz.prog 32 #[.pointer (some ⟨x.d,0,none⟩)] w fun en w'=>en=.returned (.int .i64 v.off)∧w'=w:=by
  have hc:=h.cell
  have hf:=h.frozen
  obtain ⟨sb,sl,snb,serr,sline,sls,soff⟩:=v
  clear h
  go_enter Tryz.func32,Tryz.ntmps32
  go_wp2
  go_ret
  exact ⟨rfl,rfl⟩
theorem inputPos_c (x:Cx) (c:DC) (w:World) (v:DV) (h:DecAt w x.d c v) (h1:-1000000000000 ≤ v.off - v.lstart) (h2:v.off - v.lstart ≤ 1000000000000) :
    Calls Tryz.prog 33 #[.pointer (some ⟨x.d,0,none⟩)] w fun en w'=>en=.returned (.tuple #[.int .i64 v.line,.int .i64 (v.off - v.lstart + 1)])∧∃ n,w'=w.drewN n:=by
  have hc:=h.cell
  have hf:=h.frozen
  obtain ⟨sb,sl,snb,serr,sline,sls,soff⟩:=v
  simp only at h1 h2
  clear h
  go_enter Tryz.func33,Tryz.ntmps33
  go_wp2
  go_quiet (fail)
  go_wp2
  go_ret2
  exact ⟨rfl,_,rfl⟩
end Go.Proofs.YtkjnockljapnbaaGreatDoor
namespace Go.Proofs.YtkjnockljapnbaaGreatDoor
open Go Go.RowKit
def entR (s:Bs):Nat:=if s=[108,116] then 60 else if s=[103,116] then 62 else if s=[97,109,112] then 38
  else if s=[97,112,111,115] then 39 else if s=[113,117,111,116] then 34 else 0
theorem stdEnt_r (s:Bs):stdEnt s=if entR s=0 then none else some [UInt8.ofNat (entR s)]:=by
  unfold stdEnt entR
  repeat' split
  all_goals first|rfl|simp_all
theorem bne_of {s p:Bs} (h:¬ s=p):(s == p)=false:=by simpa using h
theorem entity_c (s:Bs) (w:World):Calls Tryz.prog 63 #[strV s] w fun en w'=>en=.returned (.tuple #[.int .i32 (entR s),.bool (decide (entR s ≠ 0))])∧w'=w:=by
  by_cases h1:s=[108,116]
  · subst h1
    go_enter Tryz.func63,Tryz.ntmps63
    go_wp2
    go_ret2
    exact ⟨rfl,rfl⟩
  by_cases h2:s=[103,116]
  · subst h2
    go_enter Tryz.func63,Tryz.ntmps63
    go_wp2
    go_ret2
    exact ⟨rfl,rfl⟩
  by_cases h3:s=[97,109,112]
  · subst h3
    go_enter Tryz.func63,Tryz.ntmps63
    go_wp2
    go_ret2
    exact ⟨rfl,rfl⟩
  by_cases h4:s=[97,112,111,115]
  · subst h4
    go_enter Tryz.func63,Tryz.ntmps63
    go_wp2
    go_ret2
    exact ⟨rfl,rfl⟩
  by_cases h5:s=[113,117,111,116]
  · subst h5
    go_enter Tryz.func63,Tryz.ntmps63
    go_wp2
    go_ret2
    exact ⟨rfl,rfl⟩
  have HR:=Lib.hid (show entR s=0 by unfold entR;rw [if_neg h1,if_neg h2,if_neg h3,if_neg h4,if_neg h5])
  have e1:=bne_of h1
  have e2:=bne_of h2
  have e3:=bne_of h3
  have e4:=bne_of h4
  have e5:=bne_of h5
  clear h1 h2 h3 h4 h5
  go_enter Tryz.func63,Tryz.ntmps63
  go_wp2
  go_ret2
  exact ⟨by rw [HR.out];rfl,rfl⟩
end Go.Proofs.YtkjnockljapnbaaGreatDoor
