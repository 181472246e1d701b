/- Part of the proof that laws.FnBalanced returns true for every argument (Tt, Td, Tu). No condition of its own. -/
import Derived.Test.YtkjnockljapnbaaGreatDoorO11
import Derived.Laws.Runes
set_option linter.all false
set_option maxHeartbeats 8000000
set_option maxRecDepth 100000
namespace Go.Proofs.YtkjnockljapnbaaGreatDoor
open Go Go.RowKit
theorem NonNil.ne {v:DV} (h:NonNil v):v.bufv ≠ .slice none 0 0:=by
  obtain ⟨k,hk⟩:=h
  intro e
  rw [e] at hk
  exact hk.elim
theorem NonNil.of_iff {v v':DV} (h:NonNil v) (hb:∀ k,bufBlk v'.bufv k ↔ bufBlk v.bufv k):NonNil v':=by
  obtain ⟨k,hk⟩:=h
  exact ⟨k,(hb k).2 hk⟩
theorem NonNil.of_eq {v v':DV} (h:NonNil v) (hb:v'.bufv=v.bufv):NonNil v':=by
  obtain ⟨k,hk⟩:=h
  exact ⟨k,by rw [hb];exact hk⟩
theorem RdS.nonnil {x:Cx} {c:DC} {w:World} {v:DV} {rest:Bs} {e:Option EK} {buf:Bs} (h:RdS x c w v rest e buf) (hne:buf ≠ []):NonNil v:=by
  obtain ⟨g,cap,hv,_⟩:=h.bf.bytes hne
  exact ⟨g,by rw [hv];rfl⟩
abbrev synV (a:Addr):Value:=.iface 106 (.pointer (some a))
structure SynW (x:Cx) (c:DC) (w:World) (v:DV) (w':World) (a:Addr):Prop where
  dec:DecAt w' x.d c v
  err:ErrS x c (w'.setCell ⟨x.d,20,none⟩ (synV a)) { v with err:=synV a } .syn
  stp:Stp x w v (w'.setCell ⟨x.d,20,none⟩ (synV a)) { v with err:=synV a }
theorem synErr_w {x:Cx} (hx:x.Ok) {c:DC} {w:World} {v:DV} {rest:Bs} {e:Option EK} {buf:Bs} (h:RdS x c w v rest e buf) (msg:ByteArray) :
    Calls Tryz.prog 24 #[.pointer (some ⟨x.d,0,none⟩),.string msg] w fun en w'=>en=.returned (synV ⟨w.heap.size,0,none⟩)∧SynW x c w v w' ⟨w.heap.size,0,none⟩:=
  (synErr x.d c v w h.dec msg).mono fun en w' ⟨he,hw⟩=>by
    have hb:Below w.heap.size w w':=by rw [hw];exact (Below.refl _ w).alloc (Nat.le_refl _) _
    exact ⟨he,Blk.mod (S:=fun _=>False) h.dec (mod_none hb _) id,h.syn hx hb _,(Stp.refl x w v).syn hb _⟩
theorem RdS.drewN {x:Cx} {c:DC} {w:World} {v:DV} {rest:Bs} {e:Option EK} {buf:Bs} (h:RdS x c w v rest e buf) (hx:x.Ok) (k:Nat):RdS x c (w.drewN k) v rest e buf:=
  h.below hx ⟨rfl,rfl,rfl,Nat.le_refl _,fun _ _=>rfl⟩
theorem Stp.drewN {x:Cx} {w:World} {v:DV} (k:Nat):Stp x w v (w.drewN k) v:=⟨mod_none (show Below w.heap.size w (w.drewN k) from ⟨rfl,rfl,rfl,Nat.le_refl _,fun _ _=>rfl⟩) _,fun _ h=>Or.inl h⟩
structure Cx.All (x:Cx):Prop extends Cx.Fit x where
  num:NumErrs x.W0
  numS:8 < x.B
  numR:9 < x.B
theorem Cx.All.nums {x:Cx} (hx:x.All) {w:World} (h:Below x.B x.W0 w):NumErrs w∧8 < w.heap.size∧9 < w.heap.size:=
  ⟨hx.num.below hx.numS hx.numR h,Nat.lt_of_lt_of_le hx.numS h.size,Nat.lt_of_lt_of_le hx.numR h.size⟩
noncomputable def txCode (n:Nat):Code:=((Tryz.f37.body).bind (Code.partAt n)).getD .skip
abbrev decP (x:Cx):Value:=.pointer (some ⟨x.d,0,none⟩)
structure TxOut (x:Cx) (c:DC) (w:World) (v:DV) (qv cv:Value) (Q:Exit → Act → World → Prop) (Good:Bs → Bs → Prop) (Bad:Prop):Prop where
  on:∀ f w' v' rest' buf',RdS x c w' v' rest' none buf' → Stp x w v w' v' → NonNil v' → Good rest' buf' → Q (.exit 1) (fr 381 f [(0,decP x),(1,qv),(2,cv),(7,.int .u8 0),(8,.int .u8 0),(9,.int .i64 0)]) w'
  bad:Bad → ∀ f w' v',ErrS x c w' v' .syn → Stp x w v w' v' → Q .ret (fr 381 f [(6,.slice none 0 0)]) w'
theorem textTail_have (x:Cx) (hx:x.Fit) (c:DC) (w:World) (v:DV) (rest buf0 raw t:Bs) (h:RdS x c w v rest none (buf0 ++ raw)) (hnn:NonNil v) (hl:buf0.length ≤ 50000000000000) (ht:t.length ≤ 1000000000000) (qv cv:Value) (Q:Exit → Act → World → Prop)
    (hQ:TxOut x c w v qv cv Q (fun r b=>r=rest∧b=buf0 ++ t) False) (f:Nat → Value) :
    (txCode 75).wp Tryz.prog Q (fr 381 f [(0,decP x),(1,qv),(2,cv),(9,.int .i64 0),(12,.int .i64 buf0.length),(14,strV t),(15,.bool true)]) w:=by
  have htr:=Lib.hid (truncate_c x hx.toOk c w v rest none _ h buf0.length (by simp))
  have HQ:=Lib.hid hQ
  have HX:=Lib.hid hx
  clear hQ h
  unfold txCode
  conv=>arg 2;whnf
  (repeat (first|(with_reducible first|refine zA fun K hK=>?_|refine zB ?_|refine zC ?_)|((with_reducible first|refine zD rfl fun K hK=>?_|refine zE fun K hK=>?_);go_simp)|(with_reducible first|((repeat ((fail_if_success refine hK _ _ ?_);clear hK K));refine hK _ _ ?_;clear hK K)|refine zt ?_|refine zf ?_|refine zG ?_|refine zR ?_|refine zK ?_|refine zL ?_|refine zN ?_|refine zS ?_)|simp only [Exit.then,Exit.inBlock,Exit.noGoto,↓reduceIte,Nat.reduceEqDiff]|simp only [undef,reduceCtorEq,↓reduceIte]))
  refine htr.out.mono ?_
  rintro e1 w1 ⟨rfl,v1,h1,hn1,hb1,hm1,hz1⟩
  rw [List.take_left] at h1
  have hws:=Lib.hid (writeString_k x HX.out.toOk c w1 v1 rest none _ h1 (hnn.of_iff hb1).ne ⟨t.toArray⟩ ht hl)
  have HS1:=Lib.hid (Stp.ofS0 hm1 hb1)
  have HNN:=Lib.hid (hnn.of_iff hb1)
  clear h1 hn1 hb1 hm1 hz1 htr hnn
  go_simp
  (repeat (first|(with_reducible first|refine zA fun K hK=>?_|refine zB ?_|refine zC ?_)|((with_reducible first|refine zD rfl fun K hK=>?_|refine zE fun K hK=>?_);go_simp)|(with_reducible first|((repeat ((fail_if_success refine hK _ _ ?_);clear hK K));refine hK _ _ ?_;clear hK K)|refine zt ?_|refine zf ?_|refine zG ?_|refine zR ?_|refine zK ?_|refine zL ?_|refine zN ?_|refine zS ?_)|simp only [Exit.then,Exit.inBlock,Exit.noGoto,↓reduceIte,Nat.reduceEqDiff]|simp only [undef,reduceCtorEq,↓reduceIte]))
  refine hws.out.mono ?_
  rintro e2 w2 ⟨rfl,v2,⟨h2,hn2,hs2⟩,hnn2⟩
  have H2:=Lib.hid h2
  have HS2:=Lib.hid (HS1.out.trans hs2)
  have HNN2:=Lib.hid hnn2
  clear h2 hs2 hws hn2 hnn2
  go_simp
  (repeat (first|(with_reducible first|refine zA fun K hK=>?_|refine zB ?_|refine zC ?_)|((with_reducible first|refine zD rfl fun K hK=>?_|refine zE fun K hK=>?_);go_simp)|(with_reducible first|((repeat ((fail_if_success refine hK _ _ ?_);clear hK K));refine hK _ _ ?_;clear hK K)|refine zt ?_|refine zf ?_|refine zG ?_|refine zR ?_|refine zK ?_|refine zL ?_|refine zN ?_|refine zS ?_)|simp only [Exit.then,Exit.inBlock,Exit.noGoto,↓reduceIte,Nat.reduceEqDiff]|simp only [undef,reduceCtorEq,↓reduceIte]))
  refine Q_keep [0,1,2,7,8,9] (fun f=>?_);simp only [keep_cons,keep_nil,lk_cons,lk_nil,Nat.reduceEqDiff,↓reduceIte]
  exact HQ.out.on f _ v2 _ _ H2.out HS2.out HNN2.out ⟨rfl,rfl⟩
theorem textTail_loose (x:Cx) (c:DC) (hst:c.strict=false) (w:World) (v:DV) (rest buf:Bs) (h:RdS x c w v rest none buf) (hnn:NonNil v) (qv cv tv:Value) (Q:Exit → Act → World → Prop)
    (hQ:TxOut x c w v qv cv Q (fun r b=>r=rest∧b=buf) False) (n:Int) (f:Nat → Value) :
    (txCode 75).wp Tryz.prog Q (fr 381 f [(0,decP x),(1,qv),(2,cv),(9,.int .i64 0),(12,.int .i64 n),(14,tv),(15,.bool false)]) w:=by
  have hc:=h.dec.cell
  have hf:=h.dec.frozen
  have H:=Lib.hid h
  have HQ:=Lib.hid hQ
  have HNN:=Lib.hid hnn
  clear hQ h hnn
  unfold txCode
  conv=>arg 2;whnf
  (repeat (first|(with_reducible first|refine zA fun K hK=>?_|refine zB ?_|refine zC ?_)|((with_reducible first|refine zD rfl fun K hK=>?_|refine zE fun K hK=>?_);go_simp)|(with_reducible first|((repeat ((fail_if_success refine hK _ _ ?_);clear hK K));refine hK _ _ ?_;clear hK K)|refine zt ?_|refine zf ?_|refine zG ?_|refine zR ?_|refine zK ?_|refine zL ?_|refine zN ?_|refine zS ?_)|simp only [Exit.then,Exit.inBlock,Exit.noGoto,↓reduceIte,Nat.reduceEqDiff]|simp only [undef,reduceCtorEq,↓reduceIte]))
  refine Q_keep [0,1,2,7,8,9] (fun f=>?_);simp only [keep_cons,keep_nil,lk_cons,lk_nil,Nat.reduceEqDiff,↓reduceIte]
  exact HQ.out.on f _ v _ _ H.out (Stp.refl x w v) HNN.out ⟨rfl,rfl⟩
theorem conv_part (l:Bs) (w:World) (b off cap:Nat) (h:BytesAt w b off l):(convert 74 9 (.slice (some ⟨b,off,none⟩) l.length cap)).run Tryz.prog w=.ok (strV l) w:=conv_str l w b off cap h
theorem textTail_bad (x:Cx) (hx:x.Fit) (c:DC) (hst:c.strict=true) (w:World) (v:DV) (rest buf0 raw:Bs) (h:RdS x c w v rest none (buf0 ++ raw)) (hr:1 ≤ raw.length) (hl:(buf0 ++ raw).length ≤ 50000000000000) (qv cv tv:Value) (Q:Exit → Act → World → Prop) (Good:Bs → Bs → Prop)
    (hQ:TxOut x c w v qv cv Q Good True) (f:Nat → Value) :
    (txCode 75).wp Tryz.prog Q (fr 381 f [(0,decP x),(1,qv),(2,cv),(9,.int .i64 0),(12,.int .i64 buf0.length),(14,tv),(15,.bool false)]) w:=by
  obtain ⟨g,cap,hv,hby,hlc,hcm,_,_,_⟩:=h.bf.bytes (by intro e;have h2:=congrArg List.length e;rw [List.length_append] at h2;simp only [List.length_nil] at h2;omega)
  have hbd:=Lib.hid (bytes_c x c w v rest none _ h)
  have hc:=h.dec.cell
  have hf:=h.dec.frozen
  have hraw:=hby.drop buf0.length
  rw [Nat.zero_add,List.drop_left] at hraw
  have hlen:(buf0 ++ raw).length=buf0.length + raw.length:=List.length_append
  rw [hlen] at hv hlc hl
  have H:=Lib.hid h
  have HQ:=Lib.hid hQ
  have HX:=Lib.hid hx
  have hcv:=fun k=>conv_part raw (w.drewN k) g buf0.length (cap - buf0.length) (fun j hj=>hraw j hj)
  rw [hv] at hbd
  clear hQ h hx hby hraw hlen hv
  obtain ⟨A,hA⟩:∃ A,A=buf0.length:=⟨_,rfl⟩
  obtain ⟨R,hR⟩:∃ R,R=raw.length:=⟨_,rfl⟩
  rw [← hA] at hbd hcv hlc hl ⊢
  rw [← hR] at hbd hcv hlc hl hr
  have a0:(0:Int) ≤ (A:Int):=by omega
  have a1:(A:Int) ≤ (A:Int) + (R:Int):=by omega
  have a2:(A:Int) + (R:Int) ≤ (cap:Int):=by omega
  have hca:¬ cap=A:=by omega
  have hm1:IntKind.i64.wrap ((raw.length:Int) - 1)=(raw.length:Int) - 1:=by rw [IntKind.wrap_i64];omega
  have hm2:(0:Int) ≤ (raw.length:Int) - 1:=by omega
  have hm2':(1:Int) ≤ (raw.length:Int):=by omega
  have hm3:(raw.length:Int) - 1 < (raw.length:Int):=by omega
  have hs1:¬ 9223372036854775807 < raw.length + 15:=by omega
  have hs2:¬ 9223372036854775807 < 25 + raw.length:=by omega
  have hs3:¬ 9223372036854775807 < 25 + (raw.length + 15):=by omega
  have HR:=Lib.hid hR
  have hsy:=Lib.hid (fun (m:ByteArray) (k:Nat)=>synErr_w HX.out.toOk (H.out.drewN HX.out.toOk k) m)
  clear hA hR
  unfold txCode
  conv=>arg 2;whnf
  (repeat (first|(with_reducible first|refine zA fun K hK=>?_|refine zB ?_|refine zC ?_)|((with_reducible first|refine zD rfl fun K hK=>?_|refine zE fun K hK=>?_);go_simp)|(with_reducible first|((repeat ((fail_if_success refine hK _ _ ?_);clear hK K));refine hK _ _ ?_;clear hK K)|refine zt ?_|refine zf ?_|refine zG ?_|refine zR ?_|refine zK ?_|refine zL ?_|refine zN ?_|refine zS ?_)|simp only [Exit.then,Exit.inBlock,Exit.noGoto,↓reduceIte,Nat.reduceEqDiff]|simp only [undef,reduceCtorEq,↓reduceIte]))
  refine hbd.out.mono ?_
  rintro e1 w1 ⟨rfl,k,rfl⟩
  go_simp
  (repeat (first|(with_reducible first|refine zA fun K hK=>?_|refine zB ?_|refine zC ?_)|((with_reducible first|refine zD rfl fun K hK=>?_|refine zE fun K hK=>?_);go_simp)|(with_reducible first|((repeat ((fail_if_success refine hK _ _ ?_);clear hK K));refine hK _ _ ?_;clear hK K)|refine zt ?_|refine zf ?_|refine zG ?_|refine zR ?_|refine zK ?_|refine zL ?_|refine zN ?_|refine zS ?_)|simp only [Exit.then,Exit.inBlock,Exit.noGoto,↓reduceIte,Nat.reduceEqDiff]|simp only [undef,reduceCtorEq,↓reduceIte]))
  refine wp_cond_split (by rw [fr_eval (by decide)];simp only [lk_cons,lk_nil,Nat.reduceEqDiff,↓reduceIte];rfl) (fun _=>?_) (fun _=>?_)
  all_goals
    (repeat (first|(with_reducible first|refine zA fun K hK=>?_|refine zB ?_|refine zC ?_)|((with_reducible first|refine zD rfl fun K hK=>?_|refine zE fun K hK=>?_);go_simp)|(with_reducible first|((repeat ((fail_if_success refine hK _ _ ?_);clear hK K));refine hK _ _ ?_;clear hK K)|refine zt ?_|refine zf ?_|refine zG ?_|refine zR ?_|refine zK ?_|refine zL ?_|refine zN ?_|refine zS ?_)|simp only [Exit.then,Exit.inBlock,Exit.noGoto,↓reduceIte,Nat.reduceEqDiff]|simp only [undef,reduceCtorEq,↓reduceIte]))
    refine (hsy.out _ k).mono ?_
    rintro e2 w2 ⟨rfl,hS⟩
    have hc2:=hS.dec.cell
    have hf2:=hS.dec.frozen
    have HSY:=Lib.hid hS
    clear hS
    go_simp
    (repeat (first|(with_reducible first|refine zA fun K hK=>?_|refine zB ?_|refine zC ?_)|((with_reducible first|refine zD rfl fun K hK=>?_|refine zE fun K hK=>?_);go_simp)|(with_reducible first|((repeat ((fail_if_success refine hK _ _ ?_);clear hK K));refine hK _ _ ?_;clear hK K)|refine zt ?_|refine zf ?_|refine zG ?_|refine zR ?_|refine zK ?_|refine zL ?_|refine zN ?_|refine zS ?_)|simp only [Exit.then,Exit.inBlock,Exit.noGoto,↓reduceIte,Nat.reduceEqDiff]|simp only [undef,reduceCtorEq,↓reduceIte]))
    refine Q_keep [6] (fun f=>?_);simp only [keep_cons,keep_nil,lk_cons,lk_nil,Nat.reduceEqDiff,↓reduceIte]
    exact HQ.out.bad trivial f _ _ HSY.out.err ((Stp.drewN k).trans HSY.out.stp)
end Go.Proofs.YtkjnockljapnbaaGreatDoor
namespace Go.Proofs.YtkjnockljapnbaaGreatDoor
open Go Go.RowKit
def Code.regionAt (id:Nat):Code → Option Code
  | .seq a b=>match Code.regionAt id a with
    | some c=>some c
    | none=>Code.regionAt id b
  | .region i o d=>if i == id then some (.region i o d) else none
  | .cond _ a b=>match Code.regionAt id a with
    | some c=>some c
    | none=>Code.regionAt id b
  | .block _ c=>Code.regionAt id c
  | .loop c=>Code.regionAt id c
  | .scope c=>Code.regionAt id c
  | _=>none
noncomputable def txReg (n:Nat):Code:=((Tryz.f37.body).bind (Code.regionAt n)).getD .skip
theorem isDig_iff (hex:Bool) (b:UInt8):isDig hex b=true ↔ (48 ≤ b.toNat∧b.toNat ≤ 57) ∨ (hex=true∧97 ≤ b.toNat∧b.toNat ≤ 102) ∨ (hex=true∧65 ≤ b.toNat∧b.toNat ≤ 70):=by
  constructor
  · intro h
    rcases isDig_cases h with ⟨h1,h2,_⟩|⟨h0,h1,h2,_⟩|⟨h0,h1,h2,_⟩
    · exact Or.inl ⟨h1,h2⟩
    · exact Or.inr (Or.inl ⟨h0,h1,h2⟩)
    · exact Or.inr (Or.inr ⟨h0,h1,h2⟩)
  · have e1:(48:UInt8).toNat=48:=rfl
    have e2:(57:UInt8).toNat=57:=rfl
    have e3:(97:UInt8).toNat=97:=rfl
    have e4:(102:UInt8).toNat=102:=rfl
    have e5:(65:UInt8).toNat=65:=rfl
    have e6:(70:UInt8).toNat=70:=rfl
    simp only [isDig,Bool.or_eq_true,Bool.and_eq_true,decide_eq_true_eq,UInt8.le_iff_toNat_le,e1,e2,e3,e4,e5,e6]
    rintro (⟨h1,h2⟩|⟨h0,h1,h2⟩|⟨h0,h1,h2⟩)
    · exact Or.inl (Or.inl ⟨h1,h2⟩)
    · exact Or.inl (Or.inr ⟨⟨h0,h1⟩,h2⟩)
    · exact Or.inr ⟨⟨h0,h1⟩,h2⟩
theorem digTest (hex:Bool) (b:UInt8) (v0 v1 v2 v9 v12 v14 v15 v17:Value) (Q:Exit → Act → World → Prop) (w:World) (f:Nat → Value)
    (hQ:∀ f,Q .normal (fr 381 f [(0,v0),(1,v1),(2,v2),(9,v9),(10,.int .u8 b.toNat),(12,v12),(14,v14),(15,v15),(16,.int .i64 (if hex then 16 else 10)),(17,v17),(178,.bool (isDig hex b))]) w) :
    (txReg 43).wp Tryz.prog Q (fr 381 f [(0,v0),(1,v1),(2,v2),(9,v9),(10,.int .u8 b.toNat),(12,v12),(14,v14),(15,v15),(16,.int .i64 (if hex then 16 else 10)),(17,v17)]) w:=by
  have hA:=Lib.hid (isDig_iff hex b)
  have HQ:=Lib.hid hQ
  obtain ⟨n,hn⟩:∃ n,n=b.toNat:=⟨_,rfl⟩
  rw [← hn] at hA HQ ⊢
  clear hn hQ
  unfold txReg
  conv=>arg 2;whnf
  have hsplit:n < 48 ∨ (48 ≤ n∧n ≤ 57) ∨ (58 ≤ n∧n ≤ 64) ∨ (65 ≤ n∧n ≤ 70) ∨ (71 ≤ n∧n ≤ 96) ∨ (97 ≤ n∧n ≤ 102) ∨ 103 ≤ n:=by omega
  rcases hsplit with h|h|h|h|h|h|h
  all_goals
    have HH:=Lib.hid h
    first|have:(48:Int) ≤ (n:Int):=by omega|have:¬ ((48:Int) ≤ (n:Int)):=by omega
    first|have:(n:Int) ≤ 57:=by omega|have:¬ ((n:Int) ≤ 57):=by omega
    first|have:(97:Int) ≤ (n:Int):=by omega|have:¬ ((97:Int) ≤ (n:Int)):=by omega
    first|have:(n:Int) ≤ 102:=by omega|have:¬ ((n:Int) ≤ 102):=by omega
    first|have:(65:Int) ≤ (n:Int):=by omega|have:¬ ((65:Int) ≤ (n:Int)):=by omega
    first|have:(n:Int) ≤ 70:=by omega|have:¬ ((n:Int) ≤ 70):=by omega
    clear h
    cases hex
    all_goals
      (try simp only [Bool.false_eq_true,↓reduceIte])
      (repeat (first|(with_reducible first|refine zA fun K hK=>?_|refine zB ?_|refine zC ?_)|((with_reducible first|refine zD rfl fun K hK=>?_|refine zE fun K hK=>?_);go_simp)|(with_reducible first|((repeat ((fail_if_success refine hK _ _ ?_);clear hK K));refine hK _ _ ?_;clear hK K)|refine zt ?_|refine zf ?_|refine zG ?_|refine zR ?_|refine zK ?_|refine zL ?_|refine zN ?_|refine zS ?_)|simp only [Exit.then,Exit.inBlock,Exit.noGoto,↓reduceIte,Nat.reduceEqDiff]|simp only [undef,reduceCtorEq,↓reduceIte]))
      refine Q_keep [0,1,2,9,10,12,14,15,16,17,178] (fun f=>?_);simp only [keep_cons,keep_nil,lk_cons,lk_nil,Nat.reduceEqDiff,↓reduceIte]
      have hh:=HH.out
      have h1:=HQ.out f
      first
        | (rw [show isDig _ b=true from hA.out.2 (by simp;omega)] at h1;exact h1)
        | (rw [show isDig _ b=false from by
            rw [← Bool.not_eq_true];intro h2
            have:=hA.out.1 h2
            simp at this
            omega] at h1;exact h1)
end Go.Proofs.YtkjnockljapnbaaGreatDoor
namespace Go.Proofs.YtkjnockljapnbaaGreatDoor
open Go Go.RowKit
structure RefOut (x:Cx) (c:DC) (w:World) (v:DV) (qv cv:Value) (buf0:Bs) (Q:Exit → Act → World → Prop) (res:Except EK (Bs × Option Bs × Bs)):Prop where
  ok:∀ raw t r,res=.ok (raw,t,r) → ∀ f w' v',RdS x c w' v' r none (buf0 ++ raw) → Stp x w v w' v' → NonNil v' → Q .normal (fr 381 f [(0,decP x),(1,qv),(2,cv),(9,.int .i64 0),(12,.int .i64 buf0.length),(14,strV (t.getD [])),(15,.bool t.isSome)]) w'
  bad:∀ k,res=.error k → ∀ f w' v',ErrS x c w' v' k → Stp x w v w' v' → Q .ret (fr 381 f [(6,.slice none 0 0)]) w'
theorem strV_data (y:ByteArray):strV y.data.toList=.string y:=by cases y;simp
theorem runeV (n:Nat):strV (runeBs n)=.string (Utf8.encode n):=by rw [runeBs,strV_data]
theorem runeCv (n:Int) (w:World):(convert 21 9 (.int .i32 n)).run Tryz.prog w=.ok (.string (Utf8.encode n)) w:=run_convert_int_string w 21 9 .i32 n (by rw [Tryz.underlying21];rfl) Tryz.underlying9
def NtInv (x:Cx) (c:DC) (w:World) (v:DV) (qv cv:Value) (hex:Bool) (buf0 pre:Bs) (b:UInt8) (r:Bs) (k:Nat) (a:Act) (w':World):Prop:=
  ∃ f v4 b4 r4 ds,a=fr 381 f [(0,decP x),(1,qv),(2,cv),(9,.int .i64 0),(10,.int .u8 b4.toNat),(12,.int .i64 buf0.length),(14,strV []),(15,.bool false),(16,.int .i64 (if hex then 16 else 10)),(17,.int .i64 ((buf0.length:Int) + (pre.length:Int)))] ∧
    RdS x c w' v4 r4 none (buf0 ++ pre ++ ds)∧v4.nb=-1∧Stp x w v w' v4∧(b4 :: r4) <:+ x.T∧k=r4.length∧(spanDig hex (b :: r)).1=ds ++ (spanDig hex (b4 :: r4)).1∧(spanDig hex (b :: r)).2=(spanDig hex (b4 :: r4)).2 ∧
    (∀ d ∈ ds,isDig hex d=true)∧ds.length + r4.length ≤ r.length
theorem numTail (x:Cx) (hx:x.All) (c:DC) (hdc:DcOk x c) (hex:Bool) (pre:Bs) (hpre:pre ≠ []) (hpl:pre.length ≤ 3) (w:World) (v:DV) (b:UInt8) (r buf0:Bs) (h:RdS x c w v r none (buf0 ++ pre)) (hn:v.nb=-1) (hsuf:(b :: r) <:+ x.T) (hl:buf0.length ≤ 20000000000000)
    (qv cv:Value) (Q:Exit → Act → World → Prop) (hQ:RefOut x c w v qv cv buf0 Q (numRef x.o.fails hex pre (b :: r))) (f:Nat → Value) :
    (txCode 42).wp Tryz.prog Q (fr 381 f [(0,decP x),(1,qv),(2,cv),(9,.int .i64 0),(10,.int .u8 b.toNat),(12,.int .i64 buf0.length),(14,strV []),(15,.bool false),(16,.int .i64 (if hex then 16 else 10))]) w:=by
  have hlen:=Lib.hid (len_c x c w v r none _ h)
  have HX:=Lib.hid hx
  have HD:=Lib.hid hdc
  have HQ:=Lib.hid hQ
  have H:=Lib.hid h
  have HN:=Lib.hid hn
  have HSUF:=Lib.hid hsuf
  have hrl:r.length ≤ 1000000000:=by have h1:=hsuf.length_le;have h2:=hx.len;simp at h1;omega
  clear hQ h hn hsuf hx hdc
  unfold txCode
  conv=>arg 2;whnf
  (repeat (first|(with_reducible first|refine zA fun K hK=>?_|refine zB ?_|refine zC ?_)|((with_reducible first|refine zD rfl fun K hK=>?_|refine zE fun K hK=>?_);go_simp)|(with_reducible first|((repeat ((fail_if_success refine hK _ _ ?_);clear hK K));refine hK _ _ ?_;clear hK K)|refine zt ?_|refine zf ?_|refine zG ?_|refine zR ?_|refine zK ?_|refine zL ?_|refine zN ?_|refine zS ?_)|simp only [Exit.then,Exit.inBlock,Exit.noGoto,↓reduceIte,Nat.reduceEqDiff]|simp only [undef,reduceCtorEq,↓reduceIte]))
  refine hlen.out.mono ?_
  rintro e1 w1 ⟨rfl,k1,rfl⟩
  go_simp
  (repeat (first|(with_reducible first|refine zA fun K hK=>?_|refine zB ?_|refine zC ?_)|((with_reducible first|refine zD rfl fun K hK=>?_|refine zE fun K hK=>?_);go_simp)|(with_reducible first|((repeat ((fail_if_success refine hK _ _ ?_);clear hK K));refine hK _ _ ?_;clear hK K)|refine zt ?_|refine zf ?_|refine zG ?_|refine zR ?_|refine zK ?_|refine zL ?_|refine zN ?_|refine zS ?_)|simp only [Exit.then,Exit.inBlock,Exit.noGoto,↓reduceIte,Nat.reduceEqDiff]|simp only [undef,reduceCtorEq,↓reduceIte]))
  (refine wp_keep [0,1,2,9,10,12,14,15,16,17] (fun f=>?_);simp only [keep_cons,keep_nil,lk_cons,lk_nil,Nat.reduceEqDiff,↓reduceIte])
  refine wp_loop_ghost_k (NtInv x c w v qv cv hex buf0 pre b r) r.length ⟨f,v,b,r,[],rfl,by rw [List.append_nil];exact H.out.drewN HX.out.toOk k1,HN.out,Stp.drewN k1,HSUF.out,rfl,rfl,rfl,by simp,by simp⟩ ?_
  rintro k _ w1 ⟨f,v4,b4,r4,ds,rfl,h4,hn4,hs4,hsuf4,hk,hsp1,hsp2,hds,hdl⟩ J K2 hJ hK2
  have HJ:=Lib.hid hJ
  have HK2:=Lib.hid hK2
  have HSP1:=Lib.hid hsp1
  have HSP2:=Lib.hid hsp2
  have HDS:=Lib.hid hds
  have HDL:=Lib.hid hdl
  have HK4:=Lib.hid hk
  have HS4:=Lib.hid hs4
  have HSUF4:=Lib.hid hsuf4
  have HN4:=Lib.hid hn4
  have H4:=Lib.hid h4
  have hbl:(buf0 ++ pre ++ ds).length ≤ 30000000000000:=by
    rw [List.length_append,List.length_append];omega
  clear hJ hK2 hsp1 hsp2 hds hk hs4 hsuf4 hn4 h4 hdl
  refine wp_seq_k (fun K hK=>?_)
  refine wp_seq_k (fun K0 hK0=>?_)
  refine wp_code (digTest hex b4 _ _ _ _ _ _ _ _ _ w1 f ?_) (by kernel_rfl)
  intro f
  simp only [Exit.then]
  refine hK0 _ _ ?_
  clear hK0 K0
  by_cases hdg:isDig hex b4=true
  · rw [hdg]
    have HDG:=Lib.hid hdg
    have HE1:=Lib.hid (show (spanDig hex (b4 :: r4)).1=b4 :: (spanDig hex r4).1 by simp [spanDig,hdg])
    have HE2:=Lib.hid (show (spanDig hex (b4 :: r4)).2=(spanDig hex r4).2 by simp [spanDig,hdg])
    have hwb:=Lib.hid (writeByte_c x HX.out.toOk c w1 v4 r4 none _ H4.out b4 (by omega))
    clear hdg
    (repeat (first|(with_reducible first|refine zA fun K hK=>?_|refine zB ?_|refine zC ?_)|((with_reducible first|refine zD rfl fun K hK=>?_|refine zE fun K hK=>?_);go_simp)|(with_reducible first|((repeat ((fail_if_success refine hK _ _ ?_);clear hK K));refine hK _ _ ?_;clear hK K)|refine zt ?_|refine zf ?_|refine zG ?_|refine zR ?_|refine zK ?_|refine zL ?_|refine zN ?_|refine zS ?_)|simp only [Exit.then,Exit.inBlock,Exit.noGoto,↓reduceIte,Nat.reduceEqDiff]|simp only [undef,reduceCtorEq,↓reduceIte]))
    refine hwb.out.mono ?_
    rintro e2 w2 ⟨rfl,v5,h5,hn5,hs5⟩
    have H5:=Lib.hid h5
    have HS5:=Lib.hid (HS4.out.trans hs5)
    clear h5 hs5 hwb hn5
    go_simp
    (repeat (first|(with_reducible first|refine zA fun K hK=>?_|refine zB ?_|refine zC ?_)|((with_reducible first|refine zD rfl fun K hK=>?_|refine zE fun K hK=>?_);go_simp)|(with_reducible first|((repeat ((fail_if_success refine hK _ _ ?_);clear hK K));refine hK _ _ ?_;clear hK K)|refine zt ?_|refine zf ?_|refine zG ?_|refine zR ?_|refine zK ?_|refine zL ?_|refine zN ?_|refine zS ?_)|simp only [Exit.then,Exit.inBlock,Exit.noGoto,↓reduceIte,Nat.reduceEqDiff]|simp only [undef,reduceCtorEq,↓reduceIte]))
    cases r4 with
    | nil=>
      have hmg:=Lib.hid (mustgetc_none x HX.out.toOk c HD.out w2 v5 none _ H5.out)
      refine hmg.out.mono ?_
      rintro e3 w3 ⟨rfl,v6,h6,hb6,hm6⟩
      have HS6:=Lib.hid (HS5.out.s0 hm6 hb6)
      have H6:=Lib.hid h6
      clear h6 hb6 hm6 hmg
      go_simp
      (repeat (first|(with_reducible first|refine zA fun K hK=>?_|refine zB ?_|refine zC ?_)|((with_reducible first|refine zD rfl fun K hK=>?_|refine zE fun K hK=>?_);go_simp)|(with_reducible first|((repeat ((fail_if_success refine hK _ _ ?_);clear hK K));refine hK _ _ ?_;clear hK K)|refine zt ?_|refine zf ?_|refine zG ?_|refine zR ?_|refine zK ?_|refine zL ?_|refine zN ?_|refine zS ?_)|simp only [Exit.then,Exit.inBlock,Exit.noGoto,↓reduceIte,Nat.reduceEqDiff]|simp only [undef,reduceCtorEq,↓reduceIte]))
      refine Q_keep [6] (fun f=>?_);simp only [keep_cons,keep_nil,lk_cons,lk_nil,Nat.reduceEqDiff,↓reduceIte]
      refine HQ.out.bad _ ?_ f w3 v6 H6.out HS6.out
      unfold numRef
      rw [HSP2.out,HE2.out]
      rfl
    | cons b5 r5=>
      have hmg:=Lib.hid (mustgetc_some x HX.out.toOk c HD.out w2 v5 b5 r5 none _ H5.out)
      refine hmg.out.mono ?_
      rintro e3 w3 ⟨rfl,v6,h6,hn6,hb6,hm6,_⟩
      have HS6:=Lib.hid (HS5.out.s0 hm6 hb6)
      have H6:=Lib.hid h6
      have HN6:=Lib.hid hn6
      clear h6 hb6 hm6 hmg hn6
      go_simp
      (repeat (first|(with_reducible first|refine zA fun K hK=>?_|refine zB ?_|refine zC ?_)|((with_reducible first|refine zD rfl fun K hK=>?_|refine zE fun K hK=>?_);go_simp)|(with_reducible first|((repeat ((fail_if_success refine hK _ _ ?_);clear hK K));refine hK _ _ ?_;clear hK K)|refine zt ?_|refine zf ?_|refine zG ?_|refine zR ?_|refine zK ?_|refine zL ?_|refine zN ?_|refine zS ?_)|simp only [Exit.then,Exit.inBlock,Exit.noGoto,↓reduceIte,Nat.reduceEqDiff]|simp only [undef,reduceCtorEq,↓reduceIte]))
      (refine K_keep [0,1,2,9,10,12,14,15,16,17] (fun f=>?_);simp only [keep_cons,keep_nil,lk_cons,lk_nil,Nat.reduceEqDiff,↓reduceIte])
      refine HK2.out _ _ ⟨r5.length,by have:=HK4.out;simp at this;omega,HJ.out _ _ _ ⟨f,v6,b5,r5,ds ++ [b4],rfl,?_,HN6.out,HS6.out,?_,rfl,?_,?_,?_,?_⟩⟩
      · rw [← List.append_assoc];exact H6.out
      · exact (List.suffix_cons _ _).trans HSUF4.out
      · rw [HSP1.out,HE1.out,List.append_assoc];rfl
      · rw [HSP2.out,HE2.out]
      · intro d hd
        rcases List.mem_append.1 hd with hd|hd
        · exact HDS.out d hd
        · rw [List.mem_singleton.1 hd];exact HDG.out
      · have:=HDL.out;simp at this ⊢;omega
  · have hdg':isDig hex b4=false:=by simpa using hdg
    rw [hdg']
    have HE:=Lib.hid (show spanDig hex (b4 :: r4)=([],b4 :: r4) by simp [spanDig,hdg'])
    clear hdg hdg'
    by_cases hb:b4=59
    · subst hb
      rw [show (UInt8.toNat 59)=59 from rfl]
      obtain ⟨g,cap,hv,hby,hlc,hcm,_,_,_⟩:=H4.out.bf.bytes (by simp [hpre])
      have hbd:=Lib.hid (bytes_c x c w1 v4 r4 none _ H4.out)
      have hpart:=hby.drop (buf0 ++ pre).length
      rw [Nat.zero_add,List.drop_left] at hpart
      have hlen:(buf0 ++ pre ++ ds).length=buf0.length + pre.length + ds.length:=by rw [List.length_append,List.length_append]
      have hlen2:(buf0 ++ pre).length=buf0.length + pre.length:=List.length_append
      rw [hlen2] at hpart
      rw [hlen] at hv hlc hbl
      rw [hv] at hbd
      have hcv:∀ k,(convert 74 9 (.slice (if cap=buf0.length + pre.length then some ⟨g,0,none⟩ else some ⟨g,buf0.length + pre.length,none⟩) ds.length (cap - (buf0.length + pre.length)))).run Tryz.prog (w1.drewN k)=.ok (strV ds) (w1.drewN k):=by
        intro k
        by_cases hca:cap=buf0.length + pre.length
        · have hd0:ds=[]:=List.length_eq_zero_iff.1 (by omega)
          subst hd0
          rw [if_pos hca]
          exact conv_str [] (w1.drewN k) g 0 _ (fun j hj=>absurd hj (by simp))
        · rw [if_neg hca]
          exact conv_str ds (w1.drewN k) g _ _ (fun j hj=>hpart j hj)
      have HNUM:=Lib.hid (show numRef x.o.fails hex pre (b :: r)=.ok (pre ++ ds ++ [59],(if ds=[] ∨ 0x10FFFF < numVal hex ds then none else some (runeBs (numVal hex ds))),r4) by
        unfold numRef
        rw [HSP2.out,HSP1.out,HE.out]
        simp only [List.append_nil,if_true])
      have hdsl:ds.length ≤ 1000000000:=by have:=HDL.out;omega
      have HWB:=Lib.hid (fun (k:Nat)=>writeByte_c x HX.out.toOk c (w1.drewN k) v4 r4 none _ (H4.out.drewN HX.out.toOk k) 59 (by rw [hlen];omega))
      clear hby hpart hv hlen hlen2
      obtain ⟨S,hS⟩:∃ S,S=buf0.length + pre.length:=⟨_,rfl⟩
      rw [← hS] at hbd hcv hlc hbl
      rw [show ((buf0.length:Int) + (pre.length:Int))=(S:Int) by omega]
      obtain ⟨D,hD⟩:∃ D,D=ds.length:=⟨_,rfl⟩
      rw [← hD] at hbd hcv hlc hbl
      have a0:(0:Int) ≤ (S:Int):=by omega
      have a1:(S:Int) ≤ (S:Int) + (D:Int):=by omega
      have a2:(S:Int) + (D:Int) ≤ (cap:Int):=by omega
      clear hS hD
      (repeat (first|(with_reducible first|refine zA fun K hK=>?_|refine zB ?_|refine zC ?_)|((with_reducible first|refine zD rfl fun K hK=>?_|refine zE fun K hK=>?_);go_simp)|(with_reducible first|((repeat ((fail_if_success refine hK _ _ ?_);clear hK K));refine hK _ _ ?_;clear hK K)|refine zt ?_|refine zf ?_|refine zG ?_|refine zR ?_|refine zK ?_|refine zL ?_|refine zN ?_|refine zS ?_)|simp only [Exit.then,Exit.inBlock,Exit.noGoto,↓reduceIte,Nat.reduceEqDiff]|simp only [undef,reduceCtorEq,↓reduceIte]))
      refine hbd.out.mono ?_
      rintro e2 w2 ⟨rfl,k2,rfl⟩
      go_simp
      (repeat (first|(with_reducible first|refine zA fun K hK=>?_|refine zB ?_|refine zC ?_)|((with_reducible first|refine zD rfl fun K hK=>?_|refine zE fun K hK=>?_);go_simp)|(with_reducible first|((repeat ((fail_if_success refine hK _ _ ?_);clear hK K));refine hK _ _ ?_;clear hK K)|refine zt ?_|refine zf ?_|refine zG ?_|refine zR ?_|refine zK ?_|refine zL ?_|refine zN ?_|refine zS ?_)|simp only [Exit.then,Exit.inBlock,Exit.noGoto,↓reduceIte,Nat.reduceEqDiff]|simp only [undef,reduceCtorEq,↓reduceIte]))
      refine (HWB.out k2).mono ?_
      rintro e3 w3 ⟨rfl,v5,h5,_,hs5⟩
      obtain ⟨hnm,hg1,hg2⟩:=HX.out.nums h5.base
      have hpu:=Lib.hid (parseUint_c hex ds HDS.out hdsl w3 hnm hg1 hg2)
      have H5:=Lib.hid h5
      have HS5:=Lib.hid ((HS4.out.trans (Stp.drewN k2)).trans hs5)
      clear h5 hs5 HWB hnm hg1 hg2 hcv hbd
      go_simp
      (repeat (first|(with_reducible first|refine zA fun K hK=>?_|refine zB ?_|refine zC ?_)|((with_reducible first|refine zD rfl fun K hK=>?_|refine zE fun K hK=>?_);go_simp)|(with_reducible first|((repeat ((fail_if_success refine hK _ _ ?_);clear hK K));refine hK _ _ ?_;clear hK K)|refine zt ?_|refine zf ?_|refine zG ?_|refine zR ?_|refine zK ?_|refine zL ?_|refine zN ?_|refine zS ?_)|simp only [Exit.then,Exit.inBlock,Exit.noGoto,↓reduceIte,Nat.reduceEqDiff]|simp only [undef,reduceCtorEq,↓reduceIte]))
      refine hpu.out.mono ?_
      rintro e4 w4 ⟨hp,hw4⟩
      have H6:=Lib.hid (H5.out.below HX.out.toOk hw4)
      have HS6:=Lib.hid (HS5.out.s0 (mod_none hw4 _) rfl)
      have HNN:=Lib.hid (H6.out.nonnil (by simp [hpre]))
      clear hw4 hpu
      unfold PuFin at hp
      by_cases hc:ds=[] ∨ 18446744073709551616 ≤ numVal hex ds
      · rw [if_pos hc] at hp
        obtain ⟨n,t,u,rfl⟩:=hp
        have hc':ds=[] ∨ 0x10FFFF < numVal hex ds:=by
          rcases hc with h|h
          · exact Or.inl h
          · exact Or.inr (by omega)
        have HNUM2:=Lib.hid (HNUM.out.trans (by rw [if_pos hc']))
        clear hc hc'
        go_simp
        (repeat (first|(with_reducible first|refine zA fun K hK=>?_|refine zB ?_|refine zC ?_)|((with_reducible first|refine zD rfl fun K hK=>?_|refine zE fun K hK=>?_);go_simp)|(with_reducible first|((repeat ((fail_if_success refine hK _ _ ?_);clear hK K));refine hK _ _ ?_;clear hK K)|refine zt ?_|refine zf ?_|refine zG ?_|refine zR ?_|refine zK ?_|refine zL ?_|refine zN ?_|refine zS ?_)|simp only [Exit.then,Exit.inBlock,Exit.noGoto,↓reduceIte,Nat.reduceEqDiff]|simp only [undef,reduceCtorEq,↓reduceIte]))
        refine Q_keep [0,1,2,9,12,14,15] (fun f=>?_);simp only [keep_cons,keep_nil,lk_cons,lk_nil,Nat.reduceEqDiff,↓reduceIte]
        exact HQ.out.ok _ none r4 HNUM2.out f _ v5 (by rw [← List.append_assoc,← List.append_assoc];exact H6.out) HS6.out HNN.out
      · rw [if_neg hc] at hp
        subst hp
        obtain ⟨N,hN⟩:∃ N,N=numVal hex ds:=⟨_,rfl⟩
        rw [← hN] at HNUM hc ⊢
        have hne:¬ ds=[]:=fun h=>hc (Or.inl h)
        by_cases hr:(N:Int) ≤ 1114111
        · have hc':¬ (ds=[] ∨ 0x10FFFF < N):=by rintro (h|h);exact hne h;omega
          have HNUM2:=Lib.hid (HNUM.out.trans (by rw [if_neg hc']))
          have hwr:IntKind.i32.wrap (N:Int)=(N:Int):=by rw [IntKind.wrap_i32];omega
          have hrc:=fun w=>runeCv (N:Int) w
          clear hc hc' hN hne
          go_simp
          (repeat (first|(with_reducible first|refine zA fun K hK=>?_|refine zB ?_|refine zC ?_)|((with_reducible first|refine zD rfl fun K hK=>?_|refine zE fun K hK=>?_);go_simp)|(with_reducible first|((repeat ((fail_if_success refine hK _ _ ?_);clear hK K));refine hK _ _ ?_;clear hK K)|refine zt ?_|refine zf ?_|refine zG ?_|refine zR ?_|refine zK ?_|refine zL ?_|refine zN ?_|refine zS ?_)|simp only [Exit.then,Exit.inBlock,Exit.noGoto,↓reduceIte,Nat.reduceEqDiff]|simp only [undef,reduceCtorEq,↓reduceIte]))
          refine Q_keep [0,1,2,9,12,14,15] (fun f=>?_);simp only [keep_cons,keep_nil,lk_cons,lk_nil,Nat.reduceEqDiff,↓reduceIte]
          have h9:=HQ.out.ok _ _ r4 HNUM2.out f _ v5 (by rw [← List.append_assoc,← List.append_assoc];exact H6.out) HS6.out HNN.out
          rw [Option.getD_some,runeV] at h9
          exact h9
        · have hc':ds=[] ∨ 0x10FFFF < N:=Or.inr (by omega)
          have HNUM2:=Lib.hid (HNUM.out.trans (by rw [if_pos hc']))
          clear hc hc' hN hne
          go_simp
          (repeat (first|(with_reducible first|refine zA fun K hK=>?_|refine zB ?_|refine zC ?_)|((with_reducible first|refine zD rfl fun K hK=>?_|refine zE fun K hK=>?_);go_simp)|(with_reducible first|((repeat ((fail_if_success refine hK _ _ ?_);clear hK K));refine hK _ _ ?_;clear hK K)|refine zt ?_|refine zf ?_|refine zG ?_|refine zR ?_|refine zK ?_|refine zL ?_|refine zN ?_|refine zS ?_)|simp only [Exit.then,Exit.inBlock,Exit.noGoto,↓reduceIte,Nat.reduceEqDiff]|simp only [undef,reduceCtorEq,↓reduceIte]))
          refine Q_keep [0,1,2,9,12,14,15] (fun f=>?_);simp only [keep_cons,keep_nil,lk_cons,lk_nil,Nat.reduceEqDiff,↓reduceIte]
          exact HQ.out.ok _ none r4 HNUM2.out f _ v5 (by rw [← List.append_assoc,← List.append_assoc];exact H6.out) HS6.out HNN.out
    · have hb59:=u8ne hb (n:=59) rfl
      have hb59':((b4.toNat:Int) != 59)=true:=by simpa using hb59
      have hun:=Lib.hid (ungetc_c x HX.out.toOk c w1 v4 b4 r4 _ H4.out HN4.out HSUF4.out)
      have HB:=Lib.hid hb
      clear hb
      (repeat (first|(with_reducible first|refine zA fun K hK=>?_|refine zB ?_|refine zC ?_)|((with_reducible first|refine zD rfl fun K hK=>?_|refine zE fun K hK=>?_);go_simp)|(with_reducible first|((repeat ((fail_if_success refine hK _ _ ?_);clear hK K));refine hK _ _ ?_;clear hK K)|refine zt ?_|refine zf ?_|refine zG ?_|refine zR ?_|refine zK ?_|refine zL ?_|refine zN ?_|refine zS ?_)|simp only [Exit.then,Exit.inBlock,Exit.noGoto,↓reduceIte,Nat.reduceEqDiff]|simp only [undef,reduceCtorEq,↓reduceIte]))
      refine hun.out.mono ?_
      rintro e2 w2 ⟨rfl,v5,h5,_,hb5,hm5,_⟩
      have H5:=Lib.hid h5
      have HS5:=Lib.hid (HS4.out.s0 hm5 hb5)
      have HNN:=Lib.hid (h5.nonnil (by simp [hpre]))
      clear h5 hm5 hb5 hun
      go_simp
      (repeat (first|(with_reducible first|refine zA fun K hK=>?_|refine zB ?_|refine zC ?_)|((with_reducible first|refine zD rfl fun K hK=>?_|refine zE fun K hK=>?_);go_simp)|(with_reducible first|((repeat ((fail_if_success refine hK _ _ ?_);clear hK K));refine hK _ _ ?_;clear hK K)|refine zt ?_|refine zf ?_|refine zG ?_|refine zR ?_|refine zK ?_|refine zL ?_|refine zN ?_|refine zS ?_)|simp only [Exit.then,Exit.inBlock,Exit.noGoto,↓reduceIte,Nat.reduceEqDiff]|simp only [undef,reduceCtorEq,↓reduceIte]))
      refine Q_keep [0,1,2,9,12,14,15] (fun f=>?_);simp only [keep_cons,keep_nil,lk_cons,lk_nil,Nat.reduceEqDiff,↓reduceIte]
      refine HQ.out.ok (pre ++ ds) none (b4 :: r4) ?_ f _ v5 (by rw [← List.append_assoc];exact H5.out) HS5.out HNN.out
      unfold numRef
      rw [HSP2.out,HSP1.out,HE.out]
      simp only [List.append_nil]
      rw [if_neg HB.out]
end Go.Proofs.YtkjnockljapnbaaGreatDoor
