/- Part of the proof that laws.FnRawTokens returns true for every argument. No conditions. -/
import Derived.Test.YtdjdjbpnbjdaaaaGreatDoorP34
set_option linter.all false
set_option maxHeartbeats 8000000
set_option maxRecDepth 100000
namespace Go.Proofs.YtdjdjbpnbjdaaaaGreatDoor
open Go
theorem AH (o:cU) (b0 b1:UInt8) (buf:Bs):aX o none true [] b0 b1 buf=.error (bW o.fails):=by rw [kQ,if_pos rfl]
theorem yO (o:cU):∀ (k:Nat) (rest:Bs) (b0 b1:UInt8) (buf d r:Bs),eG k rest buf=.ok (d,r)→Lu rest b0 b1→bI buf=true→aX o none true rest b0 b1 buf=.ok (d,r)
 | 0,_,_,_,_,_,_,h,_,_=>by unfold eG at h;cases h
 | k+1,[],b0,b1,buf,d,r,h,_,hc=>by unfold eG at h;cases h
 | k+1,b::t,b0,b1,buf,d,r,h,hi,hc=>by
  unfold eG at h
  simp only at h
  split at h
  ·rename_i rE
   obtain ⟨t',ht⟩:=N5 rE
   simp only [List.cons.injEq] at ht
   obtain ⟨rfl,rfl⟩:=ht
   simp only [cI,cC] at h
   obtain ⟨rfl,rfl⟩:=h
   rw [bZ o none true 93 _ b0 b1 buf (by simp) (by simp) (by simp) (by simp),bZ o none true 93 _ b1 93 _ (by simp) (by simp) (by simp) (by simp),vD,if_pos rfl]
   have e:fP 93 93 (fP 93 b1 buf)=buf++[93,93]:=by simp [fP]
   rw [e]
   have e2:(buf++[93,93]).take ((buf++[93,93]).length-2)=buf:=by rw [List.length_append,show buf.length+[(93:UInt8),93].length-2=buf.length from rfl,List.take_left' rfl]
   rw [e2,if_pos hc]
   rfl
  ·rename_i rE
   have RF:pZ.isPrefixOf (b::t)=false:=Bool.eq_false_iff.2 rE
   split at h
   ·rename_i fZ
    subst fZ
    have e1:aX o none true (13::t) b0 b1 buf=aX o none true t b1 13 (buf++[10]):=by
     rw [bZ o none true 13 t b0 b1 buf (by simp) (by simp) (by simp) (by simp)];rfl
    rw [e1]
    cases t with
    | nil=>exact yO o k [] b1 13 _ d r h ⟨fun _=>by simp,fun _ h=>by simp at h,fun h=>by simp at h⟩ (iJ hc)
    | cons c r2=>
     simp only at h
     split at h
     ·rename_i gN
      subst gN
      rw [bZ o none true 10 r2 b1 13 _ (by simp) (by simp) (by simp) (by simp),show fP 10 13 (buf++[10])=buf++[10] from rfl]
      exact yO o k r2 13 10 _ d r h (.of (by decide) (by decide)) (iJ hc)
     ·rename_i gN
      exact yO o k (c::r2) b1 13 _ d r h ⟨fun _ hh=>gN (by simpa using hh),fun _ h=>by simp at h,fun h=>by simp at h⟩ (iJ hc)
   ·rename_i fZ
    split at h
    ·cases h
    ·rename_i hh
     simp only [not_or] at hh
     obtain ⟨b0',b1',e1,e2,_,e3⟩:=KG o none EO true hh.1 (by simpa using hh.2) (b0:=b0) (b1:=b1) buf (fun hh=>hi.e1 hh.2.1 hh.2.2.1 (by rw [hh.2.2.2];rfl)) (by simp) (by simp) fZ (fun hh=>hi.cr hh.1 (by rw [hh.2];rfl)) (by simp)
     rw [e1]
     refine yO o k _ b0' b1' _ d r h ?_ (by rw [jX hc];exact e2)
     rcases e3 with ⟨_,e3,rfl,rfl⟩|⟨e3,e4⟩
     ·rw [e3];exact hi.next fZ RF
     ·exact .of e3 e4
theorem RG (o:cU):∀ (n:Nat) (rest:Bs),rest.length≤n→∀ (b0 b1:UInt8) (buf d r:Bs),(b1=93→∃ y,buf=y++[93])→(b0=93→b1=93→∃ y,buf=y++[93,93])→aX o none true rest b0 b1 buf=.ok (d,r)→∃ w,d++[93,93]=buf++w∧(b1≠13→w.takeWhile eR=rest.takeWhile eR):=by
 intro n
 induction n with
 | zero=>
  intro rest hn b0 b1 buf d r _ _ h
  have:rest=[]:=List.eq_nil_of_length_eq_zero (by omega)
  subst this
  rw [AH] at h;cases h
 | succ n ih=>
  intro rest hn b0 b1 buf d r j1 j2 h
  cases rest with
  | nil=>rw [AH] at h;cases h
  | cons b t=>
   have ht:t.length≤n:=by simp at hn;omega
   have jL:∀ {c:UInt8},c.toNat<128→∀ y:Bs,(c::y).takeWhile eR=[]:=fun {c} hc y=>List.takeWhile_cons_of_neg (by unfold eR;simp;omega)
   by_cases hZ:b0=93∧b1=93∧b=62
   ·obtain ⟨rfl,rfl,rfl⟩:=hZ
    obtain ⟨y,rfl⟩:=j2 rfl rfl
    rw [vD,if_pos rfl] at h
    have e2:(y++[93,93]).take ((y++[93,93]).length-2)=y:=by rw [List.length_append,show y.length+[(93:UInt8),93].length-2=y.length from rfl,List.take_left' rfl]
    rw [e2] at h
    split at h
    ·simp only [cI,cC] at h
     exact ⟨[],by rw [h.1];simp,fun _=>(jL (by decide) t).symm⟩
    ·cases h
   ·rw [bZ o none true b t b0 b1 buf (fun hh=>hZ hh.2) (by simp) (by simp) (by simp)] at h
    unfold fP at h
    by_cases fZ:b=13
    ·rw [if_pos fZ] at h
     obtain ⟨w,hw,_⟩:=ih t ht b1 b _ d r (fun hh=>by rw [fZ] at hh;cases hh) (fun _ hh=>by rw [fZ] at hh;cases hh) h
     refine ⟨10::w,by rw [hw];simp,fun _=>?_⟩
     rw [jL (by rw [fZ];decide) t,jL (by decide) w]
    ·rw [if_neg fZ] at h
     by_cases gN:b1=13∧b=10
     ·rw [if_pos gN] at h
      obtain ⟨w,hw,_⟩:=ih t ht b1 b _ d r (fun hh=>by rw [gN.2] at hh;cases hh) (fun _ hh=>by rw [gN.2] at hh;cases hh) h
      exact ⟨w,hw,fun hh=>absurd gN.1 hh⟩
     ·rw [if_neg gN] at h
      obtain ⟨w,hw,h2⟩:=ih t ht b1 b _ d r (fun hh=>⟨buf,by rw [hh]⟩) (fun h8 hh=>by obtain ⟨y,rfl⟩:=j1 h8;exact ⟨y,by rw [hh];simp⟩) h
      refine ⟨b::w,by rw [hw];simp,fun _=>?_⟩
      by_cases hc:eR b=true
      ·rw [List.takeWhile_cons_of_pos hc,List.takeWhile_cons_of_pos hc,h2 fZ]
      ·rw [List.takeWhile_cons_of_neg hc,List.takeWhile_cons_of_neg hc]
theorem Pv {b:UInt8} {r:Bs} (h:(aF (b::r)).2=0∨bU (aF (b::r)).1=false):b≠93:=by
 rintro rfl
 rw [lN (by decide)] at h
 rcases h with h|h
 ·cases h
 ·exact absurd h (by decide)
theorem uX (o:cU):∀ (k:Nat) (rest:Bs) (b0 b1:UInt8) (buf:Bs),eG k rest buf=.error .bad→Lu rest b0 b1→bI buf=true→∀ d r,aX o none true rest b0 b1 buf≠.ok (d,r)
 | 0,_,_,_,_,h,_,_=>by unfold eG at h;cases h
 | k+1,[],b0,b1,buf,h,_,hc=>by intro d r;rw [AH];simp
 | k+1,b::t,b0,b1,buf,h,hi,hc=>by
  intro d r
  unfold eG at h
  simp only at h
  split at h
  ·cases h
  ·rename_i rE
   have RF:pZ.isPrefixOf (b::t)=false:=Bool.eq_false_iff.2 rE
   split at h
   ·rename_i fZ
    subst fZ
    have e1:aX o none true (13::t) b0 b1 buf=aX o none true t b1 13 (buf++[10]):=by
     rw [bZ o none true 13 t b0 b1 buf (by simp) (by simp) (by simp) (by simp)];rfl
    rw [e1]
    cases t with
    | nil=>exact uX o k [] b1 13 _ h ⟨fun _=>by simp,fun _ h=>by simp at h,fun h=>by simp at h⟩ (iJ hc) d r
    | cons c r2=>
     simp only at h
     split at h
     ·rename_i gN
      subst gN
      rw [bZ o none true 10 r2 b1 13 _ (by simp) (by simp) (by simp) (by simp),show fP 10 13 (buf++[10])=buf++[10] from rfl]
      exact uX o k r2 13 10 _ h (.of (by decide) (by decide)) (iJ hc) d r
     ·rename_i gN
      exact uX o k (c::r2) b1 13 _ h ⟨fun _ hh=>gN (by simpa using hh),fun _ h=>by simp at h,fun h=>by simp at h⟩ (iJ hc) d r
   ·rename_i fZ
    have p1:¬ ((none:Option UInt8)=none∧b0=93∧b1=93∧b=62):=fun hh=>hi.e1 hh.2.1 hh.2.2.1 (by rw [hh.2.2.2];rfl)
    have p5:¬ (b1=13∧b=10):=fun hh=>hi.cr hh.1 (by rw [hh.2];rfl)
    split at h
    ·rename_i hh
     intro h8
     have Nu:=BK o none true _ _ (Nat.le_refl _) _ _ _ _ _ h8
     rw [bZ o none true b t b0 b1 buf p1 (by simp) (by simp) (by simp),show fP b b1 buf=buf++[b] by unfold fP;rw [if_neg fZ,if_neg p5]] at h8
     obtain ⟨w,hw,n7⟩:=RG o _ _ (Nat.le_refl _) b1 b _ d r (fun h=>absurd h (Pv hh)) (fun _ h=>absurd h (Pv hh)) h8
     have h7:bI (d++[93,93])=true:=by rw [jX Nu];decide +kernel
     rw [hw,List.append_assoc,jX hc,List.singleton_append,GJ hh (n7 fZ)] at h7
     cases h7
    ·rename_i hh
     simp only [not_or] at hh
     obtain ⟨b0',b1',e1,e2,_,e3⟩:=KG o none EO true hh.1 (by simpa using hh.2) (b0:=b0) (b1:=b1) buf p1 (by simp) (by simp) fZ p5 (by simp)
     rw [e1]
     refine uX o k _ b0' b1' _ h ?_ (by rw [jX hc];exact e2) d r
     rcases e3 with ⟨_,e3,rfl,rfl⟩|⟨e3,e4⟩
     ·rw [e3];exact hi.next fZ RF
     ·exact .of e3 e4
theorem Pw (o:cU) {ents:aO} (hE:lV o.ents ents) (q:UInt8) (hq:q=34∨q=39):∀ (k:Nat) (rest:Bs) (b0 b1:UInt8) (buf d r:Bs),t7 ents q k rest buf=.ok (d,r)→bI buf=true→aX o (some q) false rest b0 b1 buf=.ok (d,r)
 | 0,_,_,_,_,_,_,h,_=>by unfold t7 at h;cases h
 | k+1,[],_,_,_,_,_,h,_=>by unfold t7 at h;cases h
 | k+1,b::t,b0,b1,buf,d,r,h,hc=>by
  have O1:∀ c,some q=some c→c.toNat<128:=fun c hh=>by
   simp only [oY] at hh;subst hh;rcases hq with rfl|rfl<;>decide
  unfold t7 at h
  simp only at h
  split at h
  ·rename_i hb
   subst hb
   simp only [cI,cC] at h
   obtain ⟨rfl,rfl⟩:=h
   rw [A0 o false b t b0 b1 buf (by rcases hq with rfl|rfl<;>simp),if_pos hc]
  ·rename_i KB
   split at h
   ·cases h
   ·rename_i lA
    split at h
    ·cases h
    ·rename_i mX
     have fZ:b≠13:=fun hh=>mX (by rw [hh];exact ⟨by decide,by decide⟩)
     have gN:b≠10:=fun hh=>mX (by rw [hh];exact ⟨by decide,by decide⟩)
     cases hd:fR ents (b::t) with
     | error e=>rw [hd] at h;cases h
     | ok x=>
      obtain ⟨y,r2⟩:=x
      rw [hd] at h
      simp only at h
      obtain ⟨b0',b1',e1,e2,_,_⟩:=CN o hE (some q) O1 hd (b0:=b0) (b1:=b1) buf (by simp) lA (fun hh=>KB (by simpa using hh.symm)) fZ (fun hh=>gN hh.2)
      rw [e1]
      exact Pw o hE q hq k r2 b0' b1' _ d r h (by rw [jX hc];exact e2)
theorem Di (o:cU) {ents:aO} (hE:lV o.ents ents) (dA:o.strict=true) (cB:sV o) (q:UInt8) (hq:q=34∨q=39):∀ (k:Nat) (rest:Bs) (b0 b1:UInt8) (buf d r:Bs),t7 ents q k rest buf=.error .bad→bI buf=true→aX o (some q) false rest b0 b1 buf=.ok (d,r)→r=[]
 | 0,_,_,_,_,_,_,h,_,_=>by unfold t7 at h;cases h
 | k+1,[],b0,b1,buf,d,r,_,hc,h=>by
  rw [kQ,if_neg (by simp),if_pos hc] at h
  simp only [cI,cC] at h
  exact h.2.symm
 | k+1,b::t,b0,b1,buf,d,r,h,hc,ht=>by
  have O1:∀ c,some q=some c→c.toNat<128:=fun c hh=>by
   simp only [oY] at hh;subst hh;rcases hq with rfl|rfl<;>decide
  unfold t7 at h
  simp only at h
  split at h
  ·cases h
  ·rename_i KB
   split at h
   ·rename_i lA
    subst lA
    rw [DE,if_neg (by simp)] at ht
    cases ht
   ·rename_i lA
    split at h
    ·cases h
    ·rename_i mX
     have fZ:b≠13:=fun hh=>mX (by rw [hh];exact ⟨by decide,by decide⟩)
     have gN:b≠10:=fun hh=>mX (by rw [hh];exact ⟨by decide,by decide⟩)
     have p3:some q≠some b:=fun hh=>KB (by simpa using hh.symm)
     cases hd:fR ents (b::t) with
     | error e=>
      rw [hd] at h
      simp only [Except.error.injEq] at h
      subst h
      exact absurd ht (N4 o hE dA cB (some q) O1 hd hc (by simp) lA p3 fZ (fun hh=>gN hh.2) d r)
     | ok x=>
      obtain ⟨y,r2⟩:=x
      rw [hd] at h
      simp only at h
      obtain ⟨b0',b1',e1,e2,_,_⟩:=CN o hE (some q) O1 hd (b0:=b0) (b1:=b1) buf (by simp) lA p3 fZ (fun hh=>gN hh.2)
      rw [e1] at ht
      exact Di o hE dA cB q hq k r2 b0' b1' _ d r h (by rw [jX hc];exact e2) ht
theorem KH (f : Bool) : ∀ (rest : Bs), (∀ (b0 b1 : UInt8) (buf : Bs), b1 ≠ 45 → bY f rest b0 b1 buf = match dC [45, 45] rest with
      | none=>.error (bW f)
      | some (_,[])=>.error (bW f)
      | some (s,c :: r)=>if c=62 then .ok (buf ++ s,r) else .error .syn) ∧
    (∀ (b0:UInt8) (buf:Bs),b0 ≠ 45 → bY f rest b0 45 (buf ++ [45])=match dC [45,45] (45 :: rest) with
      | none=>.error (bW f)
      | some (_,[])=>.error (bW f)
      | some (s,c :: r)=>if c=62 then .ok (buf ++ s,r) else .error .syn)
  | []=>by
    refine ⟨fun b0 b1 buf _=>by simp [bY,dC],fun b0 buf _=>?_⟩
    simp [bY,dC,List.isPrefixOf]
  | b :: r=>by
    obtain ⟨ih1,ih2⟩:=KH f r
    refine ⟨fun b0 b1 buf hb=>?_,fun b0 buf hb=>?_⟩
    · rw [bY,if_neg (fun hh=>hb hh.2)]
      by_cases wP:b=45
      · subst wP
        rw [ih2 b1 buf hb]
      · rw [ih1 b1 b _ wP]
        have hp:[45,45].isPrefixOf (b :: r)=false:=by
          simp only [List.isPrefixOf,Bool.and_eq_false_iff,beq_eq_false_iff_ne];exact Or.inl (fun hh=>wP hh.symm)
        rw [dC,hp]
        simp only [Bool.false_eq_true,if_false]
        cases dC [45,45] r with
        | none=>rfl
        | some x=>
          obtain ⟨s,l⟩:=x
          cases l with
          | nil=>rfl
          | cons c l=>simp
    · rw [bY,if_neg (fun hh=>hb hh.1)]
      by_cases wP:b=45
      · subst wP
        have hp:[45,45].isPrefixOf (45 :: 45 :: r)=true:=by simp [List.isPrefixOf]
        rw [dC,hp,if_pos rfl]
        cases r with
        | nil=>simp [bY]
        | cons c l=>
          rw [bY,if_pos ⟨rfl,rfl⟩]
          simp
      · rw [ih1 45 b _ wP]
        have hp:[45,45].isPrefixOf (45 :: b :: r)=false:=by
          simp only [List.isPrefixOf,Bool.and_eq_false_iff,beq_eq_false_iff_ne];exact Or.inr (Or.inl (fun hh=>wP hh.symm))
        have mG:[45,45].isPrefixOf (b :: r)=false:=by
          simp only [List.isPrefixOf,Bool.and_eq_false_iff,beq_eq_false_iff_ne];exact Or.inl (fun hh=>wP hh.symm)
        rw [dC,hp]
        simp only [Bool.false_eq_true,if_false]
        rw [dC,mG]
        simp only [Bool.false_eq_true,if_false]
        cases dC [45,45] r with
        | none=>rfl
        | some x=>
          obtain ⟨s,l⟩:=x
          cases l with
          | nil=>rfl
          | cons c l=>simp
theorem RH {f:Bool} {rest s r:Bs} (h:cZ rest=.ok (s,r)):bY f rest 0 0 []=.ok (s,r):=by
 rw [(KH f rest).1 0 0 [] (by decide)]
 unfold cZ at h
 cases hc:dC [45,45] rest with
 | none=>rw [hc] at h;cases h
 | some x=>
  obtain ⟨y,l⟩:=x
  rw [hc] at h
  cases l with
  | nil=>cases h
  | cons c l=>
   simp only at h ⊢
   split at h
   ·rename_i Dj
    split at h
    ·simp only [cI,cC] at h
     obtain ⟨rfl,rfl⟩:=h
     rw [if_pos Dj];rfl
    ·cases h
   ·cases h
theorem N6 {f:Bool} {rest:Bs} (h:cZ rest=.error .bad) (d r:Bs):bY f rest 0 0 []≠.ok (d,r):=by
 rw [(KH f rest).1 0 0 [] (by decide)]
 unfold cZ at h
 cases hc:dC [45,45] rest with
 | none=>simp
 | some x=>
  obtain ⟨y,l⟩:=x
  rw [hc] at h
  cases l with
  | nil=>simp
  | cons c l=>
   simp only at h ⊢
   split at h
   ·split at h<;>cases h
   ·rename_i Dj;rw [if_neg Dj];simp
theorem EP (f : Bool) : ∀ (rest : Bs), (∀ (b0 : UInt8) (buf : Bs), b0 ≠ 63 → kJ f rest b0 buf = match dC [63, 62] rest with
      | none=>.error (bW f)
      | some (s,r)=>.ok (buf ++ s,r)) ∧
    (∀ (buf:Bs),kJ f rest 63 (buf ++ [63])=match dC [63,62] (63 :: rest) with
      | none=>.error (bW f)
      | some (s,r)=>.ok (buf ++ s,r))
  | []=>by
    refine ⟨fun b0 buf _=>by simp [kJ,dC],fun buf=>?_⟩
    simp [kJ,dC,List.isPrefixOf]
  | b :: r=>by
    obtain ⟨ih1,ih2⟩:=EP f r
    refine ⟨fun b0 buf hb=>?_,fun buf=>?_⟩
    · rw [kJ,if_neg (fun hh=>hb hh.1)]
      by_cases VH:b=63
      · subst VH
        rw [ih2 buf]
      · rw [ih1 b _ VH]
        have hp:[63,62].isPrefixOf (b :: r)=false:=by
          simp only [List.isPrefixOf,Bool.and_eq_false_iff,beq_eq_false_iff_ne];exact Or.inl (fun hh=>VH hh.symm)
        rw [dC,hp]
        simp only [Bool.false_eq_true,if_false]
        cases dC [63,62] r with
        | none=>rfl
        | some x=>simp
    · rw [kJ]
      by_cases Dj:b=62
      · subst Dj
        have hp:[63,62].isPrefixOf (63 :: 62 :: r)=true:=by simp [List.isPrefixOf]
        rw [if_pos ⟨rfl,rfl⟩,dC,hp,if_pos rfl]
        simp
      · rw [if_neg (fun hh=>Dj hh.2)]
        have hp:[63,62].isPrefixOf (63 :: b :: r)=false:=by
          simp only [List.isPrefixOf,Bool.and_eq_false_iff,beq_eq_false_iff_ne];exact Or.inr (Or.inl (fun hh=>Dj hh.symm))
        rw [dC,hp]
        simp only [Bool.false_eq_true,if_false]
        by_cases VH:b=63
        · subst VH
          rw [ih2]
          cases dC [63,62] (63 :: r) with
          | none=>rfl
          | some x=>simp
        · rw [ih1 b _ VH]
          have mG:[63,62].isPrefixOf (b :: r)=false:=by
            simp only [List.isPrefixOf,Bool.and_eq_false_iff,beq_eq_false_iff_ne];exact Or.inl (fun hh=>VH hh.symm)
          rw [dC,mG]
          simp only [Bool.false_eq_true,if_false]
          cases dC [63,62] r with
          | none=>rfl
          | some x=>simp
theorem yP {l:Bs} (h:eV l=true):bE l=0∧(58:UInt8)∉l:=by
 unfold eV at h
 simp only [Bool.and_eq_true,Bool.not_eq_true',beq_iff_eq] at h
 refine ⟨h.2,fun hh=>?_⟩
 have:=h.1
 rw [List.contains_iff_mem.2 hh] at this
 cases this
theorem yQ {f:Bool} {rest:Bs} (h:bE (aD rest).1=0):eX f rest=if (aD rest).2=[] then .error (bW f) else .ok (aD rest):=by
 obtain ⟨h1,h2,_⟩:=qA h
 unfold eX
 rw [if_neg h1,if_pos h2]
theorem G7 {f:Bool} {rest:Bs} (h:bE (aD rest).1=1) (x:Bs×Bs):eX f rest≠.ok x:=by
 have h1:=x5 h
 unfold eX
 split
 ·simp
 ·split
  ·simp
  ·rw [h1];simp
theorem Dk:(lM.all fun s=>II s)=true:=by decide +kernel
theorem Lv (o:cU) {first:Bool} {rest tg s r:Bs} (h:fW first rest=.ok ((tg,s),r)):FC o rest=.ok (.proc tg s,r):=by
 unfold fW at h
 split at h
 ·cases h
 ·split at h
  ·cases h
  ·rename_i hn
   obtain ⟨hk,_⟩:=yP (by simpa using hn)
   split at h
   ·cases h
   ·rename_i y r' hc
    split at h
    ·cases h
    ·rename_i hg
     simp only [cI,cC] at h
     obtain ⟨⟨rfl,rfl⟩,rfl⟩:=h
     have cB:(aD rest).2≠[]:=fun hh=>by rw [hh] at hc;simp [aM,dC] at hc
     unfold FC
     rw [yQ hk,if_neg cB]
     simp only
     rw [(EP o.fails (aM (aD rest).2)).1 0 [] (by decide),hc]
     simp only [List.nil_append]
     rw [if_neg]
     rintro ⟨hx,hd⟩
     simp only [not_or] at hg
     have h3:BS (aD rest).1=true:=by rw [hx];decide
     have h4:first=true∧(aD rest).1=xR∧lM.contains y=true:=Classical.byContradiction fun hh=>hg.2.2 ⟨h3,hh⟩
     have h5:=List.all_eq_true.1 Dk y (List.contains_iff_mem.1 h4.2.2)
     rw [hd] at h5;cases h5
theorem N7 (o:cU) {first:Bool} {rest:Bs} (h:fW first rest=.error .bad) (x:aP×Bs):FC o rest≠.ok x∧FC o rest≠.error .other:=by
 unfold fW at h
 split at h
 ·rename_i hk
  unfold FC
  cases hn:eX o.fails rest with
  | error e=>
   refine ⟨by simp,?_⟩
   unfold eX at hn
   intro hh
   simp only [Except.error.injEq] at hh
   subst hh
   repeat' split at hn
   all_goals first
    | cases hn
    | (simp only [Except.error.injEq] at hn;unfold bW at hn;split at hn<;>cases hn)
  | ok y=>exact absurd hn (G7 hk y)
 ·split at h
  ·cases h
  ·rename_i hn
   obtain ⟨hk,_⟩:=yP (by simpa using hn)
   split at h
   ·rename_i hc
    unfold FC
    rw [yQ hk]
    by_cases cB:(aD rest).2=[]
    ·rw [if_pos cB];exact ⟨by simp,by cases o.fails<;>simp [bW]⟩
    ·rw [if_neg cB]
     simp only
     rw [(EP o.fails (aM (aD rest).2)).1 0 [] (by decide),hc]
     exact ⟨by simp,by cases o.fails<;>simp [bW]⟩
   ·split at h<;>cases h
def oW (c:UInt8):Bool:=c != 60&&c != 62&&c != 34&&c != 39
theorem G8 (f:Bool):∀ (s r buf:Bs),(∀ c∈s,oW c=true)→fG f (s++62::r) 0 0 buf=.ok (buf++s,r)
 | [],r,buf,_=>by rw [List.nil_append,fG];simp
 | c::s,r,buf,h=>by
  have hc:=h c (by simp)
  simp only [oW,Bool.and_eq_true,bne_iff_ne] at hc
  obtain ⟨⟨⟨h1,h2⟩,h3⟩,h4⟩:=hc
  have ih:=G8 f s r (buf++[c]) (fun d hd=>h d (by simp [hd]))
  rw [List.cons_append,fG,if_neg (fun hh=>h2 hh.2.1),iD.eq_def]
  split
  ·rename_i h0;rw [ih];simp
  ·rw [if_neg (by simp),if_neg (fun hh=>hh.elim h4 h3)]
   try rw [if_neg h2,if_neg h1]
   rw [ih]
   simp
theorem EQ:∀ {l r:Bs},nN l=some r→∃ s,l=s++62::r∧∀ c∈s,oW c=true
 | [],r,h=>by cases h
 | b::l,r,h=>by
  unfold nN at h
  split at h
  ·rename_i hb;simp only [oY] at h;subst h;subst hb;exact ⟨[],rfl,by simp⟩
  ·rename_i hb
   split at h
   ·cases h
   ·rename_i hs
    simp only [not_or] at hs
    obtain ⟨s,rfl,h2⟩:=EQ h
    refine ⟨b::s,rfl,fun c hc=>?_⟩
    simp only [List.mem_cons] at hc
    rcases hc with rfl|hc
    ·simp only [oW,Bool.and_eq_true,bne_iff_ne];exact ⟨⟨⟨hs.1,hb⟩,hs.2.2.1⟩,hs.2.2.2⟩
    ·exact h2 c hc
theorem Dl:∀ (l:Bs),∃ a,l=a++aM l∧∀ c∈a,nO c=true
 | []=>⟨[],rfl,by simp⟩
 | b::r=>by
  unfold aM
  split
  ·rename_i hb
   obtain ⟨a,h1,h2⟩:=Dl r
   refine ⟨b::a,by rw [List.cons_append,←h1],fun c hc=>?_⟩
   simp only [List.mem_cons] at hc
   rcases hc with rfl|hc
   ·exact hb
   ·exact h2 c hc
  ·exact ⟨[],rfl,by simp⟩
theorem Dm {c:UInt8} (h:nO c=true):oW c=true:=by
 simp only [nO,Bool.or_eq_true,beq_iff_eq] at h
 rcases h with ((rfl|rfl)|rfl)|rfl<;>decide
theorem Dn {c:UInt8} (h:cP c=true):oW c=true:=by
 simp only [oW,Bool.and_eq_true,bne_iff_ne]
 refine ⟨⟨⟨?_,?_⟩,?_⟩,?_⟩<;>(rintro rfl;revert h;decide)
theorem Wp (o:cU) {rest d r:Bs} (h:sC rest=.ok (d,r)):fG o.fails ([79,67,84,89,80,69]++rest) 0 0 [68]=.ok (vU++d,r):=by
 unfold sC at h
 split at h
 ·cases h
 ·split at h
  ·cases h
  ·rename_i r' hd
   split at h
   ·simp only [cI,cC] at h
    obtain ⟨rfl,rfl⟩:=h
    obtain ⟨a,h1,h2⟩:=Dl rest
    obtain ⟨h3,h4⟩:=uA (aM rest)
    obtain ⟨s,h5,h6⟩:=EQ hd
    generalize (aD (aM rest)).1=w at *
    have e:rest=(a++w++s)++62::r':=by rw [h1,←h3,h5];simp
    have et:rest.take (rest.length-r'.length-1)=a++w++s:=by
     rw [e,List.length_append,List.length_cons,show (a++w++s).length+(r'.length+1)-r'.length-1=(a++w++s).length by omega,List.take_left' rfl]
    rw [et]
    have:=G8 o.fails ([79,67,84,89,80,69]++(a++w++s)) r' [68] (fun c hc=>by
     rw [List.mem_append] at hc
     rcases hc with hc|hc
     ·revert c;decide
     ·rw [List.mem_append,List.mem_append] at hc
      rcases hc with (hc|hc)|hc
      ·exact Dm (h2 c hc)
      ·exact Dn (h4 c hc)
      ·exact h6 c hc)
    rw [e,←List.append_assoc]
    exact this
   ·cases h
theorem Dp {p:UInt8→Bool} {c:UInt8}:∀ {l:Bs},c∈l.takeWhile p→p c=true
 | [],h=>by cases h
 | b::r,h=>by
  by_cases hb:p b=true
  ·rw [List.takeWhile_cons_of_pos hb,List.mem_cons] at h
   rcases h with rfl|h
   ·exact hb
   ·exact Dp h
  ·rw [List.takeWhile_cons_of_neg hb] at h;cases h
theorem RI {l p loc:Bs} (h:kE l=some (p,loc)):dW l=(p,loc)∧dV l≤1:=by
 unfold kE at h
 have hl:l=l.takeWhile (· != 58)++l.dropWhile (· != 58):=List.takeWhile_append_dropWhile.symm
 have ht:((l.takeWhile (· != 58)).filter (·==58))=[]:=by
  rw [List.filter_eq_nil_iff]
  intro c hc
  have:=Dp hc
  simpa using this
 unfold dW dV
 cases hd:l.dropWhile (· != 58) with
 | nil=>
  rw [hd] at h
  simp only [oY,cC] at h
  obtain ⟨rfl,rfl⟩:=h
  refine ⟨rfl,?_⟩
  rw [hd,List.append_nil] at hl
  rw [hl,ht];simp
 | cons c y=>
  rw [hd] at h
  simp only at h
  split at h
  ·cases h
  ·rename_i hy
   split at h
   ·cases h
   ·rename_i hh
    simp only [oY,cC] at h
    obtain ⟨rfl,rfl⟩:=h
    refine ⟨by simp only;rw [if_neg hh],?_⟩
    have E4:y.filter (·==58)=[]:=by
     rw [List.filter_eq_nil_iff]
     intro c hc hh2
     have:c=58:=by simpa using hh2
     subst this
     exact hy (List.contains_iff_mem.2 hc)
    conv=>lhs;rw [hl,hd,List.filter_append,ht,List.nil_append]
    rw [List.filter_cons,E4]
    split<;>simp
theorem sL {f:Bool} {rest r:Bs} {nm:Bs×Bs} (h:iB rest=.ok (nm,r)):(r≠[]→cE f rest=.ok (nm,r))∧(r=[]→cE f rest=.error (bW f))∧nm.2≠[]∧r.length<rest.length:=by
 unfold iB at h
 split at h
 ·cases h
 ·rename_i k1
  split at h
  ·cases h
  ·rename_i k2
   have k0:=Pt k2 k1
   split at h
   ·cases h
   ·rename_i p l hs
    split at h
    ·cases h
    ·rename_i hg
     simp only [not_or] at hg
     simp only [cI,cC] at h
     obtain ⟨rfl,rfl⟩:=h
     obtain ⟨h1,h2⟩:=RI hs
     obtain ⟨cB,_,_⟩:=qA k0
     have hl:l≠[]:=fun hh=>hg.1 (by rw [hh];decide)
     have bF:(aD rest).2.length<rest.length:=by
      have:=congrArg List.length (uA rest).1
      rw [List.length_append] at this
      have:0<(aD rest).1.length:=List.length_pos_iff.2 cB
      omega
     refine ⟨fun hr=>?_,fun hr=>?_,hl,bF⟩
     ·unfold cE
      rw [yQ k0,if_neg hr]
      simp only
      rw [if_neg (by omega),h1]
     ·unfold cE
      rw [yQ k0,if_pos hr]
theorem ER {f:Bool} {rest:Bs} (h:iB rest=.error .bad) (x:(Bs×Bs)×Bs):cE f rest≠.ok x:=by
 unfold iB at h
 split at h
 ·rename_i k1
  unfold cE
  cases hn:eX f rest with
  | error e=>simp
  | ok y=>exact absurd hn (G7 k1 y)
 ·split at h
  ·cases h
  ·split at h
   ·cases h
   ·split at h<;>cases h
end Go.Proofs.YtdjdjbpnbjdaaaaGreatDoor
