/- Part of the proof that laws.FnRawTokens returns true for every argument. No conditions. -/
import Derived.Test.YtdjdjbpnbjdaaaaGreatDoorP06
import Derived.Laws.ResultCell
import Derived.Laws.Runes
set_option linter.all false
set_option maxHeartbeats 8000000
set_option maxRecDepth 100000
namespace Go.Proofs.YtdjdjbpnbjdaaaaGreatDoor
open Go Go.RowKit Tryz
def lZ (p:Bs):Bs→Option Nat
 | []=>if p=[] then some 0 else none
 | b::r=>if p.isPrefixOf (b::r) then some 0 else (lZ p r).map (·+1)
def y9 (p l:Bs):Int:=match lZ p l with|none=>-1|some k=>k
theorem C8 (p:Bs):∀ l:Bs,l.length<p.length→lZ p l=none
 | [],h=>by unfold lZ;rw [if_neg (by intro e;subst e;simp at h)]
 | b::r,h=>by
  unfold lZ
  rw [if_neg (by
   intro hp
   have:=(List.isPrefixOf_iff_prefix.1 hp).length_le
   omega),C8 p r (by simp at h;omega)]
  rfl
theorem YV (p l:Bs) (h:p.isPrefixOf l=true):lZ p l=some 0:=by
 cases l with
 | nil=>unfold lZ;rw [if_pos (by simpa using h)]
 | cons b r=>unfold lZ;rw [if_pos h]
theorem UC (p l:Bs) (h:p.isPrefixOf l=false) (hl:p.length ≤ l.length):lZ p l=(lZ p (l.drop 1)).map (· + 1):=by
  cases l with
  | nil=>
    have:p=[]:=by simpa using hl
    subst this;simp at h
  | cons b r => conv => lhs; unfold lZ
                rw [if_neg (by rw [h];simp)];rfl
theorem nT (l p:Bs) (i:Nat):((⟨l.toArray⟩:ByteArray).extract i (i+p.length)=⟨p.toArray⟩)↔p.isPrefixOf (l.drop i)=true:=by
 rw [List.isPrefixOf_iff_prefix,List.prefix_iff_eq_take]
 have e:((⟨l.toArray⟩:ByteArray).extract i (i+p.length)).data.toList=(l.drop i).take p.length:=by
  rw [Lib.extract_data];simp
 constructor
 ·intro h'
  rw [h'] at e
  simpa using e
 ·intro h'
  apply ByteArray.ext
  apply Array.toList_inj.1
  rw [e,←h']
theorem GA (l p:Bs) (w:World) (hl:l.length≤1000000000000) (hp:p.length≤1000000000000) (qH:1≤p.length) :
  Calls prog 99 #[aB l,aB p] w fun en w'=>en=.returned (.int .i64 (y9 p l))∧w'=w:=by
 have Yy:(l.length:Int)≤1000000000000:=by omega
 have hp':(p.length:Int)≤1000000000000:=by omega
 go_enter func99,ntmps99
 go_wp2
 go_loopg [5] (l.length+1) (fun k iv wr=>∃ i:Nat,iv=.int .i64 i∧i+k=l.length+1∧lZ p l=(lZ p (l.drop i)).map (·+i)∧wr=w)
 case atStart=>exact ⟨0,rfl,by omega,by simp,rfl⟩
 case round=>
  obtain ⟨i,rfl,hk,hid,rfl⟩:=hrel
  have Rk:=Lib.hid hid
  have HK:=Lib.hid hk
  have q0:(0:Int)≤(i:Int):=by omega
  have q1:(i:Int)≤1000000000001:=by omega
  clear hid hk
  have hc:((i:Int)+(p.length:Int)≤(l.length:Int))∨¬ ((i:Int)+(p.length:Int)≤(l.length:Int)):=by omega
  rcases hc with hc|hc
  ·have hx:((⟨l.toArray⟩:ByteArray).extract i (i+p.length)=⟨p.toArray⟩)∨¬ ((⟨l.toArray⟩:ByteArray).extract i (i+p.length)=⟨p.toArray⟩):=Classical.em _
   rcases hx with hx|hx
   ·have hh:=(nT l p i).1 hx
    have HR:=Lib.hid (show y9 p l=i by unfold y9;rw [Rk.out,YV _ _ hh];simp)
    go_wp2
    go_ret
    exact ⟨by rw [HR.out];rfl,rfl⟩
   ·have hh:p.isPrefixOf (l.drop i)=false:=by
     rw [←Bool.not_eq_true];exact fun h=>hx ((nT l p i).2 h)
    have HM:=Lib.hid (show lZ p l=(lZ p (l.drop (i+1))).map (·+(i+1)) by
     rw [Rk.out,UC _ _ hh (by rw [List.length_drop];omega),Option.map_map,List.drop_drop]
     congr 1
     funext n
     simp;omega)
    have KL:(((⟨l.toArray⟩:ByteArray).extract i (i+p.length)).toList==p)=false:=by
     rw [beq_eq_false_iff_ne]
     intro h
     apply hx
     apply ByteArray.ext
     apply Array.toList_inj.1
     rw [ByteArray.toList_eq] at h
     exact h.trans (by simp)
    clear hh hx
    go_wp2
    go_roundg (gk-1)
    case measure=>have:=HK.out;omega
    case rel=>exact ⟨i+1,by simp,by have:=HK.out;omega,HM.out,rfl⟩
  ·have HR:=Lib.hid (show y9 p l=-1 by
    unfold y9
    rw [Rk.out,C8 _ _ (by rw [List.length_drop];omega)];rfl)
   go_wp2
   go_ret
   exact ⟨by rw [HR.out];rfl,rfl⟩
theorem YW (l:Bs) (k:Nat):(⟨l.toArray⟩:ByteArray).extract 0 k=⟨(l.take k).toArray⟩:=by
 apply ByteArray.ext
 apply Array.toList_inj.1
 rw [Lib.extract_data];simp
theorem tY (l:Bs) (k:Nat):(⟨l.toArray⟩:ByteArray).extract k l.length=⟨(l.drop k).toArray⟩:=by
 apply ByteArray.ext
 apply Array.toList_inj.1
 rw [Lib.extract_data]
 simp [List.take_of_length_le]
theorem I7 (p:Bs):∀ (l:Bs) (k:Nat),lZ p l=some k→k+p.length≤l.length
 | [],k,h=>by
  unfold lZ at h
  split at h
  ·rename_i hp;subst hp;simp only [oY] at h;subst h;simp
  ·cases h
 | b::r,k,h=>by
  unfold lZ at h
  split at h
  ·rename_i hp
   simp only [oY] at h;subst h
   have:=(List.isPrefixOf_iff_prefix.1 hp).length_le
   omega
  ·rw [Option.map_eq_some_iff] at h
   obtain ⟨j,hj,rfl⟩:=h
   have:=I7 p r j hj
   simp;omega
theorem Hf (l p:Bs) (w:World) (hl:l.length≤1000000000000) (hp:p.length≤1000000000000) (qH:1≤p.length) :
  Calls prog 96 #[aB l,aB p] w fun en w'=>∃ n,w'=w.drewN n ∧
   ((∃ k,lZ p l=some k∧en=.returned (.tuple #[aB (l.take k),aB (l.drop (k+p.length)),.bool true]))∨(lZ p l=none∧en=.returned (.tuple #[aB l,aB [],.bool false]))):=by
 have hi:=Lib.hid (GA l p w hl hp qH)
 cases hx:lZ p l with
 | none=>
  have hI:y9 p l=-1:=by unfold y9;rw [hx]
  rw [hI] at hi
  have HXX:=Lib.hid hx
  clear hx hI
  go_enter func96,ntmps96
  go_wp2_with fail
  refine hi.out.mono ?_
  rintro e1 w1 ⟨rfl,rfl⟩
  go_wp2
  go_ret3
  exact ⟨0,rfl,Or.inr ⟨trivial,rfl⟩⟩
 | some k=>
  have hI:y9 p l=k:=by unfold y9;rw [hx]
  rw [hI] at hi
  have WZ:=I7 p l k hx
  have q0:(0:Int)≤(k:Int):=by omega
  have q1:(k:Int)+(p.length:Int)≤(l.length:Int):=by omega
  have q2:(l.length:Int)≤1000000000000:=by omega
  have q3:(k:Int)≤(l.length:Int):=by omega
  have HXX:=Lib.hid hx
  clear hx hI
  go_enter func96,ntmps96
  go_wp2_with fail
  refine hi.out.mono ?_
  rintro e1 w1 ⟨rfl,rfl⟩
  go_wp2
  go_quiet (fail)
  go_wp2
  go_ret3
  refine ⟨nq,rfl,Or.inl ⟨k,rfl,?_⟩⟩
  simp only [aB]
  rw [←YW,←tY];rfl
theorem YX (l:Bs) (i:Nat) (hi:i<l.length):dV (l.drop i)=(if [(58:UInt8)].isPrefixOf (l.drop i) then 1 else 0)+dV (l.drop (i+1)):=by
 rw [List.drop_eq_getElem_cons hi]
 unfold dV
 simp only [List.filter_cons,List.isPrefixOf,Bool.and_true]
 by_cases h:l[i]=58
 ·simp [h];omega
 ·have h':¬ (58:UInt8)=l[i]:=fun e=>h e.symm
  simp [h,h']
theorem Hg (l:Bs) (i:Nat) (hi:l.length≤i):dV (l.drop i)=0:=by
 rw [List.drop_eq_nil_of_le hi];rfl
theorem Rl (l:Bs):dV l≤l.length:=List.length_filter_le _ _
theorem UD (l:Bs) (w:World) (hl:l.length≤1000000000000) :
  Calls prog 95 #[aB l,aB [58]] w fun en w'=>en=.returned (.int .i64 (dV l))∧w'=w:=by
 have Yy:(l.length:Int)≤1000000000000:=by omega
 go_enter func95,ntmps95
 go_wp2
 go_loopg [5,6] (l.length+1) (fun k nv iv wr=>∃ n i:Nat,nv=.int .i64 n∧iv=.int .i64 i∧i+k=l.length+1∧n+dV (l.drop i)=dV l∧wr=w)
 case atStart=>exact ⟨0,0,rfl,rfl,by omega,by simp,rfl⟩
 case round=>
  obtain ⟨n,i,rfl,rfl,hk,hid,rfl⟩:=hrel
  have Rk:=Lib.hid hid
  have HK:=Lib.hid hk
  have q0:(0:Int)≤(i:Int):=by omega
  have q1:(i:Int)≤1000000000001:=by omega
  have q2:(n:Int)≤1000000000000:=by have:=Rl l;omega
  have q3:(0:Int)≤(n:Int):=by omega
  clear hid hk
  have hc:((i:Int)+1≤(l.length:Int))∨¬ ((i:Int)+1≤(l.length:Int)):=by omega
  rcases hc with hc|hc
  ·have HD:=Lib.hid (YX l i (by omega))
   have hx:((⟨l.toArray⟩:ByteArray).extract i (i+1)=⟨[(58:UInt8)].toArray⟩)∨¬ ((⟨l.toArray⟩:ByteArray).extract i (i+1)=⟨[(58:UInt8)].toArray⟩):=Classical.em _
   rcases hx with hx|hx
   ·have hh:=(nT l [58] i).1 hx
    have HH:=Lib.hid (show n+1+dV (l.drop (i+1))=dV l by
     have h1:=Rk.out
     have h2:=HD.out
     rw [if_pos hh] at h2
     omega)
    clear hh
    go_wp2
    go_roundg (gk-1)
    case measure=>have:=HK.out;omega
    case rel=>exact ⟨n+1,i+1,by simp,by simp,by have:=HK.out;omega,HH.out,rfl⟩
   ·have hh:[(58:UInt8)].isPrefixOf (l.drop i)=false:=by
     rw [←Bool.not_eq_true];exact fun h=>hx ((nT l [58] i).2 h)
    have HH:=Lib.hid (show n+dV (l.drop (i+1))=dV l by
     have h1:=Rk.out
     have h2:=HD.out
     rw [if_neg (by rw [hh];simp)] at h2
     omega)
    have KL:(((⟨l.toArray⟩:ByteArray).extract i (i+1)).toList==[(58:UInt8)])=false:=by
     rw [beq_eq_false_iff_ne]
     intro h
     apply hx
     apply ByteArray.ext
     apply Array.toList_inj.1
     rw [ByteArray.toList_eq] at h
     exact h.trans (by simp)
    clear hh hx
    go_wp2
    go_roundg (gk-1)
    case measure=>have:=HK.out;omega
    case rel=>exact ⟨n,i+1,rfl,by simp,by have:=HK.out;omega,HH.out,rfl⟩
  ·have HR:=Lib.hid (show dV l=n by
    have:=Rk.out
    rw [Hg l i (by omega)] at this
    omega)
   go_wp2
   go_ret
   exact ⟨by rw [HR.out];rfl,rfl⟩
abbrev AW (n:Bs×Bs):Value:=.agg #[aB n.1,aB n.2]
def Rm (x:Cx) (c:DC) (w':World) (v':DV) (en:Ending):Except EK ((Bs×Bs)×Bs)→Prop
 | .error k=>∃ nm,en=.returned (.tuple #[AW nm,.bool false])∧YR x c w' v' k
 | .ok (nm,r)=>en=.returned (.tuple #[AW nm,.bool true])∧∃ b,b≠[]∧bX x c w' v' r none b
theorem GB:∀ s:Bs,lZ [58] s=(match s.dropWhile (· != 58) with|[]=>none|_::_=>some (s.takeWhile (· != 58)).length)
 | []=>by simp [lZ]
 | b::r=>by
  unfold lZ
  by_cases h:b=58
  ·subst h;simp [List.isPrefixOf]
  ·have h':¬ (58:UInt8)=b:=fun e=>h e.symm
   rw [if_neg (by simp [List.isPrefixOf,h']),GB r]
   simp only [List.dropWhile_cons,List.takeWhile_cons,bne_iff_ne,ne_eq,h,not_false_eq_true,if_true]
   cases r.dropWhile (· != 58)<;>simp
theorem bX.s1lt {x:Cx} {c:DC} {w:World} {v:DV} {rest:Bs} {e:Option EK} {buf:Bs} (h:bX x c w v rest e buf) (k:Nat) (hk:x.S1 v k):k<w.heap.size:=by
 rcases hk with hk|hk
 ·exact h.s0lt k hk
 ·rcases h.bf with ⟨hv,_⟩|⟨g,cap,arr,hv,hg,_⟩
  ·rw [hv] at hk;exact hk.elim
  ·rw [hv] at hk
   have:k=g:=hk
   subst this;exact hg.lt
theorem bX.mod {x:Cx} {c:DC} {w w':World} {v:DV} {rest:Bs} {e:Option EK} {buf:Bs} {S:Nat→Prop} (h:bX x c w v rest e buf) (hm:aK S w w') (hS:∀ k,x.S1 v k→¬ S k) (hB:∀ k,S k→x.B≤k):bX x c w' v rest e buf:=by
 obtain ⟨un,iW,hu⟩:=h.inp
 exact ⟨aK.below h.base h.base.size hm hB,aJ.mod h.dec hm (hS _ (Or.inl (Or.inl rfl))),⟨un,iW.mod hm (hS _ (Or.inl (Or.inr (Or.inl rfl)))) (hS _ (Or.inl (Or.inr (Or.inr (Or.inl rfl))))) (hS _ (Or.inl (Or.inr (Or.inr (Or.inr rfl))))),hu⟩,h.pos,h.err,h.fin,h.bf.mod hm (fun k hk=>hS _ (Or.inr hk))⟩
theorem cK.new {x:Cx} {w w1 w2:World} {v v1:DV} {q:Nat} (h:cK x w v w1 v1) (hq:w.heap.size≤q) (hm:aK (fun k=>k=q) w1 w2):cK x w v w2 v1:=
 ⟨h.mod.trans hm (fun i hi hs=>by omega),h.buf⟩
theorem GC {f:Bool} {rest s r:Bs} (h:eX f rest=.ok (s,r)):s.length≤rest.length:=by
 unfold eX at h
 have:=lK rest
 split at h
 ·cases h
 ·split at h
  ·cases h
  ·split at h
   ·simp only [cI] at h
    rw [h] at this
    simp only at this;omega
   ·cases h
theorem YY {f:Bool} {l n r:Bs} (h:eX f l=.ok (n,r)):n≠[]:=by
 unfold eX at h
 split at h
 ·cases h
 ·split at h
  ·cases h
  ·rename_i h2
   split at h
   ·simp only [cI] at h
    rw [h] at h2
    exact h2
   ·cases h
theorem C9 (x:Cx) (hx:x.Fit) (c:DC) (dR:iU x c) (w:World) (v:DV) (rest:Bs) (e:Option EK) (buf:Bs) (h:bX x c w v rest e buf) :
  Calls prog 60 #[.pointer (some ⟨x.d,0,none⟩)] w fun en w'=>∃ v',cK x w v w' v'∧Rm x c w' v' en (cE x.o.fails rest):=by
 have HX:=Lib.hid hx
 have YG:=Lib.hid (show rest.length≤1000000000 from Nat.le_trans (h.suf.length_le) hx.len)
 have bP:Below w.heap.size w (w.alloc (.cells #[.string ⟨#[]⟩,.string ⟨#[]⟩] 85)):=(Below.refl _ w).alloc (Nat.le_refl _) _
 have h1:=h.below hx.toOk bP
 have lD:=Lib.hid (YT x hx c dR _ v rest e buf h1)
 have hq:=aJ.new w #[.string ⟨#[]⟩,.string ⟨#[]⟩] 85
 have HQ:=Lib.hid (fun (w2:World) (v2:DV) (hs:cK x (w.alloc (.cells #[.string ⟨#[]⟩,.string ⟨#[]⟩] 85)) v w2 v2)=>hq.mod hs.mod (fun hk=>Nat.lt_irrefl _ (h.s1lt _ hk)))
 have fV:=Lib.hid bP
 have HF:=Lib.hid (fun (w2:World) (v2:DV) (hs:cK x (w.alloc (.cells #[.string ⟨#[]⟩,.string ⟨#[]⟩] 85)) v w2 v2)=>(show cK x w v w2 v2 from (cK.refl x w v).s0 (aH bP _) rfl |>.trans hs))
 have Nf:=Lib.hid (fun (v2:DV) {w2:World} (hs:cK x (w.alloc (.cells #[.string ⟨#[]⟩,.string ⟨#[]⟩] 85)) v w2 v2) (k:Nat) (hk:x.S1 v2 k)=>(show ¬ k=w.heap.size from fun e=>by
  subst e
  rcases hk with hk|hk
  ·exact Nat.lt_irrefl _ (h.s0lt _ hk)
  ·rcases hs.buf _ hk with hk|hk
   ·exact Nat.lt_irrefl _ (h.s1lt _ (Or.inr hk))
   ·simp at hk;omega))
 have H:=Lib.hid h
 have nU:=hq.cell
 have s6:=hq.frozen
 clear h h1 hq bP hx dR
 go_enter func60,ntmps60
 go_wp2_with fail
 refine lD.out.mono ?_
 rintro e2 w2 ⟨v2,gS,mG⟩
 have AQ:=HQ.out w2 v2 gS
 have gH:=Lib.hid gS
 have nU:=AQ.cell
 have s6:=AQ.frozen
 have R6:=Lib.hid AQ
 clear gS AQ lD
 cases hn:eX x.o.fails rest with
 | error k=>
  rw [hn] at mG
  obtain ⟨rfl,mG⟩:=mG
  have HP:=Lib.hid mG
  have HN:=Lib.hid (show cE x.o.fails rest=.error k by unfold cE;rw [hn])
  clear mG hn
  go_wp2
  refine bodyPost_ret (v:=.tuple #[AW ([],[]),.bool false]) (by rw [results_cell_tmp rfl];go_simp) rfl ?_
  refine ⟨v2,HF.out _ _ gH.out,?_⟩
  rw [HN.out]
  exact ⟨([],[]),rfl,HP.out⟩
 | ok sr=>
  obtain ⟨s,r⟩:=sr
  rw [hn] at mG
  obtain ⟨rfl,hr⟩:=mG
  have vC:s.length≤1000000000000:=by
   have h1:=YG.out
   have h2:=lK rest
   have h3:=GC hn
   omega
  have HR:=Lib.hid hr
  have kP:=Lib.hid (YY hn)
  have Zz:=Lib.hid (UD s w2 vC)
  have hcut:=Lib.hid (Hf s [58] w2 vC (by simp) (by simp))
  have HN:=Lib.hid (show cE x.o.fails rest=if 1<dV s then .error .syn else .ok (dW s,r) by unfold cE;rw [hn])
  clear hr hn
  have hc:((1:Int)<(dV s:Int))∨¬ ((1:Int)<(dV s:Int)):=by omega
  rcases hc with hc|hc
  ·have mH:=Lib.hid (show cE x.o.fails rest=.error .syn by rw [HN.out,if_pos (by omega)])
   go_wp2_with fail
   refine Zz.out.mono ?_
   rintro e3 w3 ⟨rfl,rfl⟩
   go_wp2
   refine bodyPost_ret (v:=.tuple #[AW ([],[]),.bool false]) (by rw [results_cell_tmp rfl];go_simp) rfl ?_
   have hm:=((aK.refl (fun k=>k=w.heap.size) w3).setCell (p:=⟨w.heap.size,0,none⟩) (Or.inl rfl) (.string ⟨#[]⟩)).setCell (p:=⟨w.heap.size,1,none⟩) (Or.inl rfl) (.string ⟨#[]⟩)
   refine ⟨v2,(HF.out _ _ gH.out).new (Nat.le_refl _) hm,?_⟩
   rw [mH.out]
   exact ⟨([],[]),rfl,Or.inr ⟨rfl,r,s,HR.out.mod hm (Nf.out _ gH.out) (fun k hk=>by rw [hk];exact H.out.base.size)⟩⟩
  ·have mH:=Lib.hid (show cE x.o.fails rest=.ok (dW s,r) by rw [HN.out,if_neg (by omega)])
   have HIX:=Lib.hid (GB s)
   go_wp2_with fail
   refine Zz.out.mono ?_
   rintro e3 w3 ⟨rfl,rfl⟩
   go_wp2_with fail
   refine hcut.out.mono ?_
   rintro e4 w4 ⟨n,rfl,Ge⟩
   rcases Ge with ⟨k,hk,rfl⟩|⟨hk,rfl⟩
   ·have fY:(s.take k=[]∨s.drop (k+1)=[]→dW s=([],s))∧(¬ (s.take k=[]∨s.drop (k+1)=[])→dW s=(s.take k,s.drop (k+1))):=by
     have:=HIX.out
     rw [hk] at this
     unfold dW
     cases hd:s.dropWhile (· != 58) with
     | nil=>rw [hd] at this;cases this
     | cons a t=>
      rw [hd] at this
      simp only [oY] at this
      have e1:s=s.takeWhile (· != 58)++a::t:=by rw [←hd];simp
      have e2:s.takeWhile (· != 58)=s.take k:=by
       conv=>rhs;rw [e1]
       rw [this];simp
      have e3:t=s.drop (k+1):=by
       conv=>rhs;rw [e1]
       rw [this];simp
      simp only
      rw [e2,e3]
      constructor
      ·intro h;rw [if_pos h]
      ·intro h;rw [if_neg h]
    have oK:=Lib.hid fY
    clear hk fY
    have vO:((s.take k==[])=true)∨((s.take k==[])=false∧(s.drop (k+1)==[])=true)∨((s.take k==[])=false∧(s.drop (k+1)==[])=false):=by
     cases (s.take k==[])<;>cases (s.drop (k+1)==[])<;>simp
    rcases vO with h1|⟨h1,h2⟩|⟨h1,h2⟩
    ·have qP:=Lib.hid (oK.out.1 (Or.inl (by simpa using h1)))
     go_wp2
     refine bodyPost_ret (v:=.tuple #[AW ([],s),.bool true]) (by rw [results_cell_tmp rfl];go_simp) rfl ?_
     have hm:=((((aK.refl (fun k=>k=w.heap.size) w3).drewN n).setCell (p:=⟨w.heap.size,1,none⟩) (Or.inl rfl) (aB s)).setCell (p:=⟨w.heap.size,0,none⟩) (Or.inl rfl) (.string ⟨#[]⟩)).setCell (p:=⟨w.heap.size,1,none⟩) (Or.inl rfl) (aB s)
     refine ⟨v2,(HF.out _ _ gH.out).new (Nat.le_refl _) hm,?_⟩
     rw [mH.out,qP.out]
     exact ⟨rfl,s,kP.out,HR.out.mod hm (Nf.out _ gH.out) (fun k hk=>by rw [hk];exact H.out.base.size)⟩
    ·have qP:=Lib.hid (oK.out.1 (Or.inr (by simpa using h2)))
     go_wp2
     refine bodyPost_ret (v:=.tuple #[AW ([],s),.bool true]) (by rw [results_cell_tmp rfl];go_simp) rfl ?_
     have hm:=((((aK.refl (fun k=>k=w.heap.size) w3).drewN n).setCell (p:=⟨w.heap.size,1,none⟩) (Or.inl rfl) (aB s)).setCell (p:=⟨w.heap.size,0,none⟩) (Or.inl rfl) (.string ⟨#[]⟩)).setCell (p:=⟨w.heap.size,1,none⟩) (Or.inl rfl) (aB s)
     refine ⟨v2,(HF.out _ _ gH.out).new (Nat.le_refl _) hm,?_⟩
     rw [mH.out,qP.out]
     exact ⟨rfl,s,kP.out,HR.out.mod hm (Nf.out _ gH.out) (fun k hk=>by rw [hk];exact H.out.base.size)⟩
    ·have qP:=Lib.hid (oK.out.2 (by simp at h1 h2 ⊢;exact ⟨h1,h2⟩))
     go_wp2
     have Zd:=(((((show aJ (w3.drewN n) w.heap.size _ _ from R6.out).set 0 (aB (s.take k))).set 1 (aB (s.drop (k+1)))).set 0 (aB (s.take k))).set 1 (aB (s.drop (k+1)))).cell
     have a5S:=Zd 0
     have a5T:=Zd 1
     clear Zd
     refine bodyPost_ret (v:=.tuple #[AW (s.take k,s.drop (k+1)),.bool true]) (by rw [results_cell_tmp rfl];go_simp) rfl ?_
     have hm:=(((((aK.refl (fun k=>k=w.heap.size) w3).drewN n).setCell (p:=⟨w.heap.size,0,none⟩) (Or.inl rfl) (aB (s.take k))).setCell (p:=⟨w.heap.size,1,none⟩) (Or.inl rfl) (aB (s.drop (k+1)))).setCell (p:=⟨w.heap.size,0,none⟩) (Or.inl rfl) (aB (s.take k))).setCell (p:=⟨w.heap.size,1,none⟩) (Or.inl rfl) (aB (s.drop (k+1)))
     refine ⟨v2,(HF.out _ _ gH.out).new (Nat.le_refl _) hm,?_⟩
     rw [mH.out,qP.out]
     exact ⟨rfl,s,kP.out,HR.out.mod hm (Nf.out _ gH.out) (fun k hk=>by rw [hk];exact H.out.base.size)⟩
   ·have fY:dW s=([],s):=by
     have:=HIX.out
     rw [hk] at this
     unfold dW
     cases hd:s.dropWhile (· != 58) with
     | nil=>rfl
     | cons a t=>rw [hd] at this;cases this
    have oK:=Lib.hid fY
    clear hk fY
    go_wp2
    refine bodyPost_ret (v:=.tuple #[AW ([],s),.bool true]) (by rw [results_cell_tmp rfl];go_simp) rfl ?_
    have hm:=((((aK.refl (fun k=>k=w.heap.size) w3).drewN n).setCell (p:=⟨w.heap.size,1,none⟩) (Or.inl rfl) (aB s)).setCell (p:=⟨w.heap.size,0,none⟩) (Or.inl rfl) (.string ⟨#[]⟩)).setCell (p:=⟨w.heap.size,1,none⟩) (Or.inl rfl) (aB s)
    refine ⟨v2,(HF.out _ _ gH.out).new (Nat.le_refl _) hm,?_⟩
    rw [mH.out,oK.out]
    exact ⟨rfl,s,kP.out,HR.out.mod hm (Nf.out _ gH.out) (fun k hk=>by rw [hk];exact H.out.base.size)⟩
theorem AX (r:Nat):bU r=true↔r=9∨r=10∨r=13∨(32≤r∧r≤55295)∨(57344≤r∧r≤65533)∨(65536≤r∧r≤1114111):=by
 simp only [bU,Bool.or_eq_true,Bool.and_eq_true,decide_eq_true_eq,beq_iff_eq]
 omega
theorem UE (n:Nat) (w:World):Calls prog 94 #[.int .i32 n] w fun e w'=>e=.returned (.bool (bU n))∧w=w':=by
 have hA:=Lib.hid (AX n)
 have r8:n<9∨n=9∨n=10∨(11≤n∧n≤12)∨n=13∨(14≤n∧n≤31)∨(32≤n∧n≤55295)∨(55296≤n∧n≤57343)∨(57344≤n∧n≤65533)∨(65534≤n∧n≤65535)∨(65536≤n∧n≤1114111)∨1114112≤n:=by omega
 rcases r8 with h|h|h|h|h|h|h|h|h|h|h|h
 all_goals
  have HH:=Lib.hid h
  first|have:(32:Int)≤(n:Int):=by omega|have:¬ ((32:Int)≤(n:Int)):=by omega
  first|have:(n:Int)≤55295:=by omega|have:¬ ((n:Int)≤55295):=by omega
  first|have:(57344:Int)≤(n:Int):=by omega|have:¬ ((57344:Int)≤(n:Int)):=by omega
  first|have:(n:Int)≤65533:=by omega|have:¬ ((n:Int)≤65533):=by omega
  first|have:(65536:Int)≤(n:Int):=by omega|have:¬ ((65536:Int)≤(n:Int)):=by omega
  first|have:(n:Int)≤1114111:=by omega|have:¬ ((n:Int)≤1114111):=by omega
  first|have:(((n:Int))==(9))=true:=by (simp;omega)|have:(((n:Int))==(9))=false:=by (simp;omega)
  first|have:(((n:Int))==(10))=true:=by (simp;omega)|have:(((n:Int))==(10))=false:=by (simp;omega)
  first|have:(((n:Int))==(13))=true:=by (simp;omega)|have:(((n:Int))==(13))=false:=by (simp;omega)
  clear h
  go_enter func94,ntmps94
  go_wp2
  go_ret
  refine ⟨?_,rfl⟩
  have:=HH.out
  first
   | (rw [show bU n=true from hA.out.2 (by omega)];rfl)
   | (rw [show bU n=false from by
     rw [←Bool.not_eq_true];intro hh
     have:=hA.out.1 hh;omega];rfl)
theorem FM (x:Cx) (c:DC) (w:World) (v:DV) (h:bO w x.d c v) :
  Calls prog 38 #[.pointer (some ⟨x.d,0,none⟩)] w fun en w'=>en=.returned (.int .i64 v.off)∧w'=w:=by
 have hc:=h.cell
 have hf:=h.frozen
 obtain ⟨sb,sl,snb,serr,sline,sls,soff⟩:=v
 clear h
 go_enter func38,ntmps38
 go_wp2
 go_ret
 exact ⟨rfl,rfl⟩
theorem PP (x:Cx) (c:DC) (w:World) (v:DV) (h:bO w x.d c v) (h1:-1000000000000≤v.off-v.lstart) (h2:v.off-v.lstart≤1000000000000) :
  Calls prog 39 #[.pointer (some ⟨x.d,0,none⟩)] w fun en w'=>en=.returned (.tuple #[.int .i64 v.line,.int .i64 (v.off-v.lstart+1)])∧∃ n,w'=w.drewN n:=by
 have hc:=h.cell
 have hf:=h.frozen
 obtain ⟨sb,sl,snb,serr,sline,sls,soff⟩:=v
 simp only at h1 h2
 clear h
 go_enter func39,ntmps39
 go_wp2
 go_quiet (fail)
 go_wp2
 go_ret2
 exact ⟨rfl,_,rfl⟩
def pE (s:Bs):Nat:=if s=[108,116] then 60 else if s=[103,116] then 62 else if s=[97,109,112] then 38
 else if s=[97,112,111,115] then 39 else if s=[113,117,111,116] then 34 else 0
theorem LL (s:Bs):pV s=if pE s=0 then none else some [UInt8.ofNat (pE s)]:=by
 unfold pV pE
 repeat' split
 all_goals first|rfl|simp_all
theorem DA {s p:Bs} (h:¬ s=p):(s==p)=false:=by simpa using h
theorem YZ (s:Bs) (w:World):Calls prog 91 #[aB s] w fun en w'=>en=.returned (.tuple #[.int .i32 (pE s),.bool (decide (pE s≠0))])∧w'=w:=by
 by_cases h1:s=[108,116]
 ·subst h1
  go_enter func91,ntmps91
  go_wp2
  go_ret2
  exact ⟨rfl,rfl⟩
 by_cases h2:s=[103,116]
 ·subst h2
  go_enter func91,ntmps91
  go_wp2
  go_ret2
  exact ⟨rfl,rfl⟩
 by_cases h3:s=[97,109,112]
 ·subst h3
  go_enter func91,ntmps91
  go_wp2
  go_ret2
  exact ⟨rfl,rfl⟩
 by_cases h4:s=[97,112,111,115]
 ·subst h4
  go_enter func91,ntmps91
  go_wp2
  go_ret2
  exact ⟨rfl,rfl⟩
 by_cases h5:s=[113,117,111,116]
 ·subst h5
  go_enter func91,ntmps91
  go_wp2
  go_ret2
  exact ⟨rfl,rfl⟩
 have HR:=Lib.hid (show pE s=0 by unfold pE;rw [if_neg h1,if_neg h2,if_neg h3,if_neg h4,if_neg h5])
 have e1:=DA h1
 have e2:=DA h2
 have e3:=DA h3
 have e4:=DA h4
 have e5:=DA h5
 clear h1 h2 h3 h4 h5
 go_enter func91,ntmps91
 go_wp2
 go_ret2
 exact ⟨by rw [HR.out];rfl,rfl⟩
theorem cO.ne {v:DV} (h:cO v):v.bufv≠.slice none 0 0:=by
 obtain ⟨k,hk⟩:=h
 intro e
 rw [e] at hk
 exact hk.elim
theorem cO.of_iff {v v':DV} (h:cO v) (hb:∀ k,dQ v'.bufv k↔dQ v.bufv k):cO v':=by
 obtain ⟨k,hk⟩:=h
 exact ⟨k,(hb k).2 hk⟩
theorem cO.of_eq {v v':DV} (h:cO v) (hb:v'.bufv=v.bufv):cO v':=by
 obtain ⟨k,hk⟩:=h
 exact ⟨k,by rw [hb];exact hk⟩
theorem bX.nonnil {x:Cx} {c:DC} {w:World} {v:DV} {rest:Bs} {e:Option EK} {buf:Bs} (h:bX x c w v rest e buf) (cB:buf≠[]):cO v:=by
 obtain ⟨g,cap,hv,_⟩:=h.bf.bytes cB
 exact ⟨g,by rw [hv];rfl⟩
abbrev BR (a:Addr):Value:=.iface 109 (.pointer (some a))
structure Y0 (x:Cx) (c:DC) (w:World) (v:DV) (w':World) (a:Addr):Prop where
 dec:bO w' x.d c v
 err:jP x c (w'.setCell ⟨x.d,20,none⟩ (BR a)) { v with err:=BR a } .syn
 stp:cK x w v (w'.setCell ⟨x.d,20,none⟩ (BR a)) { v with err:=BR a }
theorem qR {x:Cx} (hx:x.Ok) {c:DC} {w:World} {v:DV} {rest:Bs} {e:Option EK} {buf:Bs} (h:bX x c w v rest e buf) (msg:ByteArray) :
  Calls prog 30 #[.pointer (some ⟨x.d,0,none⟩),.string msg] w fun en w'=>en=.returned (BR ⟨w.heap.size,0,none⟩)∧Y0 x c w v w' ⟨w.heap.size,0,none⟩:=
 (IX x.d c v w h.dec msg).mono fun en w' ⟨he,hw⟩=>by
  have hb:Below w.heap.size w w':=by rw [hw];exact (Below.refl _ w).alloc (Nat.le_refl _) _
  exact ⟨he,aJ.mod (S:=fun _=>False) h.dec (aH hb _) id,h.syn hx hb _,(cK.refl x w v).syn hb _⟩
theorem bX.drewN {x:Cx} {c:DC} {w:World} {v:DV} {rest:Bs} {e:Option EK} {buf:Bs} (h:bX x c w v rest e buf) (hx:x.Ok) (k:Nat):bX x c (w.drewN k) v rest e buf:=
 h.below hx ⟨rfl,rfl,rfl,Nat.le_refl _,fun _ _=>rfl⟩
theorem cK.drewN {x:Cx} {w:World} {v:DV} (k:Nat):cK x w v (w.drewN k) v:=⟨aH (show Below w.heap.size w (w.drewN k) from ⟨rfl,rfl,rfl,Nat.le_refl _,fun _ _=>rfl⟩) _,fun _ h=>Or.inl h⟩
structure Cx.All (x:Cx):Prop extends Cx.Fit x where
 num:pM x.W0
 numS:8<x.B
 numR:9<x.B
theorem Cx.All.nums {x:Cx} (hx:x.All) {w:World} (h:Below x.B x.W0 w):pM w∧8<w.heap.size∧9<w.heap.size:=
 ⟨hx.num.below hx.numS hx.numR h,Nat.lt_of_lt_of_le hx.numS h.size,Nat.lt_of_lt_of_le hx.numR h.size⟩
noncomputable def fJ (n:Nat):Code:=((Tryz.f58.body).bind (Code.partAt n)).getD .skip
abbrev bS (x:Cx):Value:=.pointer (some ⟨x.d,0,none⟩)
structure Y1 (x:Cx) (c:DC) (w:World) (v:DV) (qv cv:Value) (Q:Exit→Act→World→Prop) (Good:Bs→Bs→Prop) (Bad:Prop):Prop where
 on:∀ f w' v' rest' buf',bX x c w' v' rest' none buf'→cK x w v w' v'→cO v'→Good rest' buf'→Q (.exit 1) (fr 381 f [(0,bS x),(1,qv),(2,cv),(7,.int .u8 0),(8,.int .u8 0),(9,.int .i64 0)]) w'
 bad:Bad→∀ f w' v',jP x c w' v' .syn→cK x w v w' v'→Q .ret (fr 381 f [(6,.slice none 0 0)]) w'
theorem FN (x:Cx) (hx:x.Fit) (c:DC) (w:World) (v:DV) (rest buf0 raw t:Bs) (h:bX x c w v rest none (buf0++raw)) (o4:cO v) (hl:buf0.length≤50000000000000) (ht:t.length≤1000000000000) (qv cv:Value) (Q:Exit→Act→World→Prop)
  (hQ:Y1 x c w v qv cv Q (fun r b=>r=rest∧b=buf0++t) False) (f:Nat→Value) :
  (fJ 75).wp prog Q (fr 381 f [(0,bS x),(1,qv),(2,cv),(9,.int .i64 0),(12,.int .i64 buf0.length),(14,aB t),(15,.bool true)]) w:=by
 have R7:=Lh (C2 x hx.toOk c w v rest none _ h buf0.length (by simp))
 have HQ:=Lh hQ
 have HX:=Lh hx
 clear hQ h
 unfold fJ
 conv=>arg 2;whnf
 (refine vg ?_;(repeat with_reducible intro K hK))
 refine R7.out.mono ?_
 rintro e1 w1 ⟨rfl,v1,h1,iL,bP,eA,iR⟩
 rw [List.take_left] at h1
 have mX:=Lh (FK x HX.out.toOk c w1 v1 rest none _ h1 (o4.of_iff bP).ne ⟨t.toArray⟩ ht hl)
 have iS:=Lh (cK.ofS0 eA bP)
 have nC:=Lh (o4.of_iff bP)
 clear h1 iL bP eA iR R7 o4
 ((repeat revert K);refine vS ?_;(repeat with_reducible intro K hK))
 refine mX.out.mono ?_
 rintro e2 w2 ⟨rfl,v2,⟨h2,gK,gS⟩,Hh⟩
 have H2:=Lh h2
 have gH:=Lh (iS.out.trans gS)
 have Y2:=Lh Hh
 clear h2 gS mX gK Hh
 ((repeat revert K);refine vS ?_;intro K hK)
 refine Qk [0,1,2,7,8,9] fun f=>?_
 exact HQ.out.on f _ v2 _ _ H2.out gH.out Y2.out ⟨rfl,rfl⟩
theorem DB (x:Cx) (c:DC) (dA:c.strict=false) (w:World) (v:DV) (rest buf:Bs) (h:bX x c w v rest none buf) (o4:cO v) (qv cv tv:Value) (Q:Exit→Act→World→Prop)
  (hQ:Y1 x c w v qv cv Q (fun r b=>r=rest∧b=buf) False) (n:Int) (f:Nat→Value) :
  (fJ 75).wp prog Q (fr 381 f [(0,bS x),(1,qv),(2,cv),(9,.int .i64 0),(12,.int .i64 n),(14,tv),(15,.bool false)]) w:=by
 have hc:=h.dec.cell
 have hf:=h.dec.frozen
 have H:=Lh h
 have HQ:=Lh hQ
 have nC:=Lh o4
 clear hQ h o4
 unfold fJ
 conv=>arg 2;whnf
 (refine vg ?_;intro K hK)
 refine Qk [0,1,2,7,8,9] fun f=>?_
 exact HQ.out.on f _ v _ _ H.out (cK.refl x w v) nC.out ⟨rfl,rfl⟩
theorem zF (l:Bs) (w:World) (b off cap:Nat) (h:bG w b off l):(convert 77 9 (.slice (some ⟨b,off,none⟩) l.length cap)).run prog w=.ok (aB l) w:=oL l w b off cap h
theorem I8 (x:Cx) (hx:x.Fit) (c:DC) (dA:c.strict=true) (w:World) (v:DV) (rest buf0 raw:Bs) (h:bX x c w v rest none (buf0++raw)) (hr:1≤raw.length) (hl:(buf0++raw).length≤50000000000000) (qv cv tv:Value) (Q:Exit→Act→World→Prop) (Good:Bs→Bs→Prop)
  (hQ:Y1 x c w v qv cv Q Good True) (f:Nat→Value) :
  (fJ 75).wp prog Q (fr 381 f [(0,bS x),(1,qv),(2,cv),(9,.int .i64 0),(12,.int .i64 buf0.length),(14,tv),(15,.bool false)]) w:=by
 obtain ⟨g,cap,hv,lY,yW,E1,_,_,_⟩:=h.bf.bytes (by intro e;have h2:=congrArg List.length e;rw [List.length_append] at h2;simp only [List.length_nil] at h2;omega)
 have sB:=Lh (nS x c w v rest none _ h)
 have hc:=h.dec.cell
 have hf:=h.dec.frozen
 have fT:=lY.drop buf0.length
 rw [Nat.zero_add,List.drop_left] at fT
 have bF:(buf0++raw).length=buf0.length+raw.length:=List.length_append
 rw [bF] at hv yW hl
 have H:=Lh h
 have HQ:=Lh hQ
 have HX:=Lh hx
 have EZ:=fun k=>zF raw (w.drewN k) g buf0.length (cap-buf0.length) (fun j hj=>fT j hj)
 rw [hv] at sB
 clear hQ h hx lY fT bF hv
 obtain ⟨A,hA⟩:∃ A,A=buf0.length:=⟨_,rfl⟩
 obtain ⟨R,hR⟩:∃ R,R=raw.length:=⟨_,rfl⟩
 rw [←hA] at sB EZ yW hl ⊢
 rw [←hR] at sB EZ yW hl hr
 have a0:(0:Int)≤(A:Int):=by omega
 have a1:(A:Int)≤(A:Int)+(R:Int):=by omega
 have a2:(A:Int)+(R:Int)≤(cap:Int):=by omega
 have wG:¬ cap=A:=by omega
 have eA:IntKind.i64.wrap ((raw.length:Int)-1)=(raw.length:Int)-1:=by rw [IntKind.wrap_i64];omega
 have iA:(0:Int)≤(raw.length:Int)-1:=by omega
 have a5U:(1:Int)≤(raw.length:Int):=by omega
 have cD:(raw.length:Int)-1<(raw.length:Int):=by omega
 have jV:¬ 9223372036854775807<raw.length+15:=by omega
 have gS:¬ 9223372036854775807<25+raw.length:=by omega
 have R1:¬ 9223372036854775807<25+(raw.length+15):=by omega
 have HR:=Lh hR
 have hsy:=Lh (fun (m:ByteArray) (k:Nat)=>qR HX.out.toOk (H.out.drewN HX.out.toOk k) m)
 clear hA hR
 unfold fJ
 conv=>arg 2;whnf
 (refine vg ?_;(repeat with_reducible intro K hK))
 refine sB.out.mono ?_
 rintro e1 w1 ⟨rfl,k,rfl⟩
 ((repeat revert K);refine vS ?_;intro K hK)
 refine wp_cond_split (by rw [dZ (by decide)];simp only [aS,bD,Nat.reduceEqDiff,↓reduceIte];rfl) (fun _=>?_) (fun _=>?_)
 all_goals
  (revert K;refine vg ?_;(repeat with_reducible intro K hK))
  refine (hsy.out _ k).mono ?_
  rintro e2 w2 ⟨rfl,hS⟩
  have tE:=hS.dec.cell
  have sZ:=hS.dec.frozen
  have qS:=Lh hS
  clear hS
  ((repeat revert K);refine vS ?_)
  refine Qk [6] fun f=>?_
  exact HQ.out.bad trivial f _ _ qS.out.err ((cK.drewN k).trans qS.out.stp)
def Code.regionAt (id:Nat):Code→Option Code
 | .seq a b=>match Code.regionAt id a with
  | some c=>some c
  | none=>Code.regionAt id b
 | .region i o d=>if i==id then some (.region i o d) else none
 | .cond _ a b=>match Code.regionAt id a with
  | some c=>some c
  | none=>Code.regionAt id b
 | .block _ c=>Code.regionAt id c
 | .loop c=>Code.regionAt id c
 | .scope c=>Code.regionAt id c
 | _=>none
noncomputable def GD (n:Nat):Code:=((Tryz.f58.body).bind (Code.regionAt n)).getD .skip
theorem UF (bQ:Bool) (b:UInt8):eY bQ b=true↔(48≤b.toNat∧b.toNat≤57)∨(bQ=true∧97≤b.toNat∧b.toNat≤102)∨(bQ=true∧65≤b.toNat∧b.toNat≤70):=by
 constructor
 ·intro h
  rcases AO h with ⟨h1,h2,_⟩|⟨h0,h1,h2,_⟩|⟨h0,h1,h2,_⟩
  ·exact Or.inl ⟨h1,h2⟩
  ·exact Or.inr (Or.inl ⟨h0,h1,h2⟩)
  ·exact Or.inr (Or.inr ⟨h0,h1,h2⟩)
 ·have e1:(48:UInt8).toNat=48:=rfl
  have e2:(57:UInt8).toNat=57:=rfl
  have e3:(97:UInt8).toNat=97:=rfl
  have e4:(102:UInt8).toNat=102:=rfl
  have e5:(65:UInt8).toNat=65:=rfl
  have e6:(70:UInt8).toNat=70:=rfl
  simp only [eY,Bool.or_eq_true,Bool.and_eq_true,decide_eq_true_eq,UInt8.le_iff_toNat_le,e1,e2,e3,e4,e5,e6]
  rintro (⟨h1,h2⟩|⟨h0,h1,h2⟩|⟨h0,h1,h2⟩)
  ·exact Or.inl (Or.inl ⟨h1,h2⟩)
  ·exact Or.inl (Or.inr ⟨⟨h0,h1⟩,h2⟩)
  ·exact Or.inr ⟨⟨h0,h1⟩,h2⟩
theorem Hi (bQ:Bool) (b:UInt8) (v0 v1 v2 v9 v12 v14 v15 v17:Value) (Q:Exit→Act→World→Prop) (w:World) (f:Nat→Value)
  (hQ:∀ f,Q .normal (fr 381 f [(0,v0),(1,v1),(2,v2),(9,v9),(10,.int .u8 b.toNat),(12,v12),(14,v14),(15,v15),(16,.int .i64 (if bQ then 16 else 10)),(17,v17),(178,.bool (eY bQ b))]) w) :
  (GD 43).wp prog Q (fr 381 f [(0,v0),(1,v1),(2,v2),(9,v9),(10,.int .u8 b.toNat),(12,v12),(14,v14),(15,v15),(16,.int .i64 (if bQ then 16 else 10)),(17,v17)]) w:=by
 have hA:=Lh (UF bQ b)
 have HQ:=Lh hQ
 obtain ⟨n,hn⟩:∃ n,n=b.toNat:=⟨_,rfl⟩
 rw [←hn] at hA HQ ⊢
 clear hn hQ
 unfold GD
 conv=>arg 2;whnf
 have r8:n<48∨(48≤n∧n≤57)∨(58≤n∧n≤64)∨(65≤n∧n≤70)∨(71≤n∧n≤96)∨(97≤n∧n≤102)∨103≤n:=by omega
 rcases r8 with h|h|h|h|h|h|h
 all_goals
  have HH:=Lh h
  first|have:(48:Int)≤(n:Int):=by omega|have:¬ ((48:Int)≤(n:Int)):=by omega
  first|have:(n:Int)≤57:=by omega|have:¬ ((n:Int)≤57):=by omega
  first|have:(97:Int)≤(n:Int):=by omega|have:¬ ((97:Int)≤(n:Int)):=by omega
  first|have:(n:Int)≤102:=by omega|have:¬ ((n:Int)≤102):=by omega
  first|have:(65:Int)≤(n:Int):=by omega|have:¬ ((65:Int)≤(n:Int)):=by omega
  first|have:(n:Int)≤70:=by omega|have:¬ ((n:Int)≤70):=by omega
  clear h
  cases bQ
  all_goals
   (try simp only [Bool.false_eq_true,↓reduceIte])
   refine vg ?_
   refine Qk [0,1,2,9,10,12,14,15,16,17,178] fun f=>?_
   have hh:=HH.out
   have h1:=HQ.out f
   first
    | (rw [show eY _ b=true from hA.out.2 (by simp;omega)] at h1;exact h1)
    | (rw [show eY _ b=false from by
      rw [←Bool.not_eq_true];intro h2
      have:=hA.out.1 h2
      simp at this
      omega] at h1;exact h1)
structure DD (x:Cx) (c:DC) (w:World) (v:DV) (qv cv:Value) (buf0:Bs) (Q:Exit→Act→World→Prop) (res:Except EK (Bs×Option Bs×Bs)):Prop where
 ok:∀ raw t r,res=.ok (raw,t,r)→∀ f w' v',bX x c w' v' r none (buf0++raw)→cK x w v w' v'→cO v'→Q .normal (fr 381 f [(0,bS x),(1,qv),(2,cv),(9,.int .i64 0),(12,.int .i64 buf0.length),(14,aB (t.getD [])),(15,.bool t.isSome)]) w'
 bad:∀ k,res=.error k→∀ f w' v',jP x c w' v' k→cK x w v w' v'→Q .ret (fr 381 f [(6,.slice none 0 0)]) w'
theorem UG (y:ByteArray):aB y.data.toList=.string y:=by cases y;simp
theorem a0A (n:Nat):aB (fN n)=.string (Utf8.encode n):=by rw [fN,UG]
theorem Y3 (n:Int) (w:World):(convert 21 9 (.int .i32 n)).run prog w=.ok (.string (Utf8.encode n)) w:=run_convert_int_string w 21 9 .i32 n (by rw [underlying21];rfl) underlying9
def a0B (x:Cx) (c:DC) (w:World) (v:DV) (qv cv:Value) (bQ:Bool) (buf0 pre:Bs) (b:UInt8) (r:Bs) (k:Nat) (a:Act) (w':World):Prop:=
 ∃ f v4 b4 r4 ds,a=fr 381 f [(0,bS x),(1,qv),(2,cv),(9,.int .i64 0),(10,.int .u8 b4.toNat),(12,.int .i64 buf0.length),(14,aB []),(15,.bool false),(16,.int .i64 (if bQ then 16 else 10)),(17,.int .i64 ((buf0.length:Int)+(pre.length:Int)))] ∧
  bX x c w' v4 r4 none (buf0++pre++ds)∧v4.nb=-1∧cK x w v w' v4∧(b4::r4) <:+ x.T∧k=r4.length∧(bV bQ (b::r)).1=ds++(bV bQ (b4::r4)).1∧(bV bQ (b::r)).2=(bV bQ (b4::r4)).2 ∧
  (∀ d∈ds,eY bQ d=true)∧ds.length+r4.length≤r.length
theorem R8 (x:Cx) (hx:x.All) (c:DC) (dR:iU x c) (bQ:Bool) (pre:Bs) (gM:pre≠[]) (FF:pre.length≤3) (w:World) (v:DV) (b:UInt8) (r buf0:Bs) (h:bX x c w v r none (buf0++pre)) (hn:v.nb=-1) (lI:(b::r) <:+ x.T) (hl:buf0.length≤20000000000000)
  (qv cv:Value) (Q:Exit→Act→World→Prop) (hQ:DD x c w v qv cv buf0 Q (dY x.o.fails bQ pre (b::r))) (f:Nat→Value) :
  (fJ 42).wp prog Q (fr 381 f [(0,bS x),(1,qv),(2,cv),(9,.int .i64 0),(10,.int .u8 b.toNat),(12,.int .i64 buf0.length),(14,aB []),(15,.bool false),(16,.int .i64 (if bQ then 16 else 10))]) w:=by
 have bF:=Lh (F4 x c w v r none _ h)
 have HX:=Lh hx
 have HD:=Lh dR
 have HQ:=Lh hQ
 have H:=Lh h
 have HN:=Lh hn
 have kC:=Lh lI
 have hrl:r.length≤1000000000:=by have h1:=lI.length_le;have h2:=hx.len;simp at h1;omega
 clear hQ h hn lI hx dR
 unfold fJ
 conv=>arg 2;whnf
 (refine vg ?_;(repeat with_reducible intro K hK))
 refine bF.out.mono ?_
 rintro e1 w1 ⟨rfl,k1,rfl⟩
 ((repeat revert K);refine vS ?_;intro K hK)
 (refine cJ [0,1,2,9,10,12,14,15,16,17] fun f=>?_)
 refine wp_loop_ghost_k (a0B x c w v qv cv bQ buf0 pre b r) r.length ⟨f,v,b,r,[],rfl,by rw [List.append_nil];exact H.out.drewN HX.out.toOk k1,HN.out,cK.drewN k1,kC.out,rfl,rfl,rfl,by simp,by simp⟩ ?_
 rintro k _ w1 ⟨f,v4,b4,r4,ds,rfl,h4,UH,YH,Nk,hk,I3,LH,hds,LM⟩ J K2 hJ cY
 have HJ:=Lh hJ
 have dN:=Lh cY
 have C5:=Lh I3
 have qP:=Lh LH
 have Y4:=Lh hds
 have Nl:=Lh LM
 have HK4:=Lh hk
 have nM:=Lh YH
 have Nm:=Lh Nk
 have Rn:=Lh UH
 have H4:=Lh h4
 have eZ:(buf0++pre++ds).length≤30000000000000:=by
  rw [List.length_append,List.length_append];omega
 clear hJ cY I3 LH hds hk YH Nk UH h4 LM
 refine wp_seq_k (fun K hK=>?_)
 refine wp_seq_k (fun K0 Nn=>?_)
 refine aY (Hi bQ b4 _ _ _ _ _ _ _ _ _ w1 f ?_) (by kernel_rfl)
 intro f
 simp only [Exit.then]
 refine Nn _ _ ?_
 clear Nn K0
 by_cases No:eY bQ b4=true
 ·rw [No]
  have HDG:=Lh No
  have I9:=Lh (show (bV bQ (b4::r4)).1=b4::(bV bQ r4).1 by simp [bV,No])
  have FO:=Lh (show (bV bQ (b4::r4)).2=(bV bQ r4).2 by simp [bV,No])
  have mZ:=Lh (gG x HX.out.toOk c w1 v4 r4 none _ H4.out b4 (by omega))
  clear No
  ((repeat revert K);refine vg ?_;(repeat with_reducible intro K hK))
  refine mZ.out.mono ?_
  rintro e2 w2 ⟨rfl,v5,h5,PK,hs5⟩
  have H5:=Lh h5
  have rG:=Lh (nM.out.trans hs5)
  clear h5 hs5 mZ PK
  ((repeat revert K);refine vS ?_;(repeat with_reducible intro K hK))
  cases r4 with
  | nil=>
   have fD:=Lh (bJ x HX.out.toOk c HD.out w2 v5 none _ H5.out)
   refine fD.out.mono ?_
   rintro e3 w3 ⟨rfl,v6,h6,xK,eQ⟩
   have nD:=Lh (rG.out.s0 eQ xK)
   have H6:=Lh h6
   clear h6 xK eQ fD
   ((repeat revert K);refine vS ?_;intro K hK)
   refine Qk [6] fun f=>?_
   refine HQ.out.bad _ ?_ f w3 v6 H6.out nD.out
   unfold dY
   rw [qP.out,FO.out]
   rfl
  | cons b5 r5=>
   have fD:=Lh (bH x HX.out.toOk c HD.out w2 v5 b5 r5 none _ H5.out)
   refine fD.out.mono ?_
   rintro e3 w3 ⟨rfl,v6,h6,R2,xK,eQ,_⟩
   have nD:=Lh (rG.out.s0 eQ xK)
   have H6:=Lh h6
   have HN6:=Lh R2
   clear h6 xK eQ fD R2
   ((repeat revert K);refine vS ?_;intro K hK)
   (refine Kk [0,1,2,9,10,12,14,15,16,17] fun f=>?_)
   refine dN.out _ _ ⟨r5.length,by have:=HK4.out;simp at this;omega,HJ.out _ _ _ ⟨f,v6,b5,r5,ds++[b4],rfl,?_,HN6.out,nD.out,?_,rfl,?_,?_,?_,?_⟩⟩
   ·rw [←List.append_assoc];exact H6.out
   ·exact (List.suffix_cons _ _).trans Nm.out
   ·rw [C5.out,I9.out,List.append_assoc];rfl
   ·rw [qP.out,FO.out]
   ·intro d hd
    rcases List.mem_append.1 hd with hd|hd
    ·exact Y4.out d hd
    ·rw [List.mem_singleton.1 hd];exact HDG.out
   ·have:=Nl.out;simp at this ⊢;omega
 ·have Ro:eY bQ b4=false:=by simpa using No
  rw [Ro]
  have HE:=Lh (show bV bQ (b4::r4)=([],b4::r4) by simp [bV,Ro])
  clear No Ro
  by_cases hb:b4=59
  ·subst hb
   rw [show (UInt8.toNat 59)=59 from rfl]
   obtain ⟨g,cap,hv,lY,yW,E1,_,_,_⟩:=H4.out.bf.bytes (by simp [gM])
   have sB:=Lh (nS x c w1 v4 r4 none _ H4.out)
   have AY:=lY.drop (buf0++pre).length
   rw [Nat.zero_add,List.drop_left] at AY
   have bF:(buf0++pre++ds).length=buf0.length+pre.length+ds.length:=by rw [List.length_append,List.length_append]
   have Np:(buf0++pre).length=buf0.length+pre.length:=List.length_append
   rw [Np] at AY
   rw [bF] at hv yW eZ
   rw [hv] at sB
   have EZ:∀ k,(convert 77 9 (.slice (if cap=buf0.length+pre.length then some ⟨g,0,none⟩ else some ⟨g,buf0.length+pre.length,none⟩) ds.length (cap-(buf0.length+pre.length)))).run prog (w1.drewN k)=.ok (aB ds) (w1.drewN k):=by
    intro k
    by_cases wG:cap=buf0.length+pre.length
    ·have XR:ds=[]:=List.length_eq_zero_iff.1 (by omega)
     subst XR
     rw [if_pos wG]
     exact oL [] (w1.drewN k) g 0 _ (fun j hj=>absurd hj (by simp))
    ·rw [if_neg wG]
     exact oL ds (w1.drewN k) g _ _ (fun j hj=>AY j hj)
   have nQ:=Lh (show dY x.o.fails bQ pre (b::r)=.ok (pre++ds++[59],(if ds=[]∨0x10FFFF<gL bQ ds then none else some (fN (gL bQ ds))),r4) by
    unfold dY
    rw [qP.out,C5.out,HE.out]
    simp only [List.append_nil,if_true])
   have a3h:ds.length≤1000000000:=by have:=Nl.out;omega
   have HWB:=Lh (fun (k:Nat)=>gG x HX.out.toOk c (w1.drewN k) v4 r4 none _ (H4.out.drewN HX.out.toOk k) 59 (by rw [bF];omega))
   clear lY AY hv bF Np
   obtain ⟨S,hS⟩:∃ S,S=buf0.length+pre.length:=⟨_,rfl⟩
   rw [←hS] at sB EZ yW eZ
   rw [show ((buf0.length:Int)+(pre.length:Int))=(S:Int) by omega]
   obtain ⟨D,hD⟩:∃ D,D=ds.length:=⟨_,rfl⟩
   rw [←hD] at sB EZ yW eZ
   have a0:(0:Int)≤(S:Int):=by omega
   have a1:(S:Int)≤(S:Int)+(D:Int):=by omega
   have a2:(S:Int)+(D:Int)≤(cap:Int):=by omega
   clear hS hD
   ((repeat revert K);refine vg ?_;(repeat with_reducible intro K hK))
   refine sB.out.mono ?_
   rintro e2 w2 ⟨rfl,k2,rfl⟩
   ((repeat revert K);refine vS ?_;(repeat with_reducible intro K hK))
   refine (HWB.out k2).mono ?_
   rintro e3 w3 ⟨rfl,v5,h5,_,hs5⟩
   obtain ⟨lD,RU,CU⟩:=HX.out.nums h5.base
   have LN:=Lh (LK bQ ds Y4.out a3h w3 lD RU CU)
   have H5:=Lh h5
   have rG:=Lh ((nM.out.trans (cK.drewN k2)).trans hs5)
   clear h5 hs5 HWB lD RU CU EZ sB
   ((repeat revert K);refine vS ?_;(repeat with_reducible intro K hK))
   refine LN.out.mono ?_
   rintro e4 w4 ⟨hp,AZ⟩
   have H6:=Lh (H5.out.below HX.out.toOk AZ)
   have nD:=Lh (rG.out.s0 (aH AZ _) rfl)
   have nC:=Lh (H6.out.nonnil (by simp [gM]))
   clear AZ LN
   unfold R5 at hp
   by_cases hc:ds=[]∨18446744073709551616≤gL bQ ds
   ·rw [if_pos hc] at hp
    obtain ⟨n,t,u,rfl⟩:=hp
    have WW:ds=[]∨0x10FFFF<gL bQ ds:=by
     rcases hc with h|h
     ·exact Or.inl h
     ·exact Or.inr (by omega)
    have LO:=Lh (nQ.out.trans (by rw [if_pos WW]))
    clear hc WW
    ((repeat revert K);refine vS ?_)
    refine Qk [0,1,2,9,12,14,15] fun f=>?_
    exact HQ.out.ok _ none r4 LO.out f _ v5 (by rw [←List.append_assoc,←List.append_assoc];exact H6.out) nD.out nC.out
   ·rw [if_neg hc] at hp
    subst hp
    obtain ⟨N,hN⟩:∃ N,N=gL bQ ds:=⟨_,rfl⟩
    rw [←hN] at nQ hc ⊢
    have cB:¬ ds=[]:=fun h=>hc (Or.inl h)
    by_cases hr:(N:Int)≤1114111
    ·have WW:¬ (ds=[]∨0x10FFFF<N):=by rintro (h|h);exact cB h;omega
     have LO:=Lh (nQ.out.trans (by rw [if_neg WW]))
     have hwr:IntKind.i32.wrap (N:Int)=(N:Int):=by rw [IntKind.wrap_i32];omega
     have hrc:=fun w=>Y3 (N:Int) w
     clear hc WW hN cB
     ((repeat revert K);refine vS ?_)
     refine Qk [0,1,2,9,12,14,15] fun f=>?_
     have h9:=HQ.out.ok _ _ r4 LO.out f _ v5 (by rw [←List.append_assoc,←List.append_assoc];exact H6.out) nD.out nC.out
     rw [Option.getD_some,a0A] at h9
     exact h9
    ·have WW:ds=[]∨0x10FFFF<N:=Or.inr (by omega)
     have LO:=Lh (nQ.out.trans (by rw [if_pos WW]))
     clear hc WW hN cB
     ((repeat revert K);refine vS ?_)
     refine Qk [0,1,2,9,12,14,15] fun f=>?_
     exact HQ.out.ok _ none r4 LO.out f _ v5 (by rw [←List.append_assoc,←List.append_assoc];exact H6.out) nD.out nC.out
  ·have Rp:=eU hb (n:=59) rfl
   have a0C:((b4.toNat:Int) != 59)=true:=by simpa using Rp
   have iW:=Lh (gZ x HX.out.toOk c w1 v4 b4 r4 _ H4.out Rn.out Nm.out)
   have HB:=Lh hb
   clear hb
   ((repeat revert K);refine vg ?_;intro K hK)
   refine iW.out.mono ?_
   rintro e2 w2 ⟨rfl,v5,h5,_,jM,fL,_⟩
   have H5:=Lh h5
   have rG:=Lh (nM.out.s0 fL jM)
   have nC:=Lh (h5.nonnil (by simp [gM]))
   clear h5 fL jM iW
   (revert K;refine vS ?_)
   refine Qk [0,1,2,9,12,14,15] fun f=>?_
   refine HQ.out.ok (pre++ds) none (b4::r4) ?_ f _ v5 (by rw [←List.append_assoc];exact H5.out) rG.out nC.out
   unfold dY
   rw [qP.out,C5.out,HE.out]
   simp only [List.append_nil]
   rw [if_neg HB.out]
end Go.Proofs.YtdjdjbpnbjdaaaaGreatDoor
