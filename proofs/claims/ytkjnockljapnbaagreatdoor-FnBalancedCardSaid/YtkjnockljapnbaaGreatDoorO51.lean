/- Part of the proof that laws.FnBalanced returns true for every argument (Kg, Bal0, Bal1). No condition of its own. -/
import Derived.Test.YtkjnockljapnbaaGreatDoorO50
import Derived.Test.YtkjnockljapnbaaGreatDoorO15
set_option linter.all false
set_option maxHeartbeats 8000000
set_option maxRecDepth 100000
namespace Go.Proofs.YtkjnockljapnbaaGreatDoor
open Go Go.RowKit
theorem PcOk.below {w w':World} {pcA:Option Addr} {pcN pcC:Nat} {pcs:List Int} (h:PcOk w pcA pcN pcC pcs) (hb:Below w.heap.size w w'):PcOk w' pcA pcN pcC pcs:=by
  refine ⟨h.n,h.l,fun hp=>?_⟩
  obtain ⟨pb,po,h1,h2,h3⟩:=h.at' hp
  exact ⟨pb,po,h1,Nat.lt_of_lt_of_le h2 hb.size,fun j hj=>by rw [hb.cell (p:=⟨pb,po + j,none⟩) h2];exact h3 j hj⟩
structure RunAt (T:Bs) (w:World) (tv:Value) (l:List (RTok × St)) (xs:List Value):Prop where
  row:∃ base,w.ownsRow base 33 8 tv l.length xs
  rows:∃ base,RowsAt (RowOk w base (fun _=>True) T) l xs
theorem RunAt.below {T:Bs} {w w':World} {tv:Value} {l:List (RTok × St)} {xs:List Value} (h:RunAt T w tv l xs) (hb:Below w.heap.size w w'):RunAt T w' tv l xs:=by
  obtain ⟨b1,h1⟩:=h.row
  obtain ⟨b2,h2⟩:=h.rows
  exact ⟨⟨b1,ownsRow_mod (S:=fun _=>False) h1 (mod_none hb _) (fun _ _=>id)⟩,⟨b2,h2.mono (fun a ys hr=>hr.mod (mod_none hb (fun _=>False)) (fun _ _ _=>⟨id,trivial⟩))⟩⟩
structure PlAt (w:World) (L:List ITok) (out:Value):Prop where
  ex:∃ base base' xs,w.ownsRow base 40 6 out L.length xs∧RowsAt (PtOk w base' (fun _=>True)) L xs
theorem PlAt.below {w w':World} {L:List ITok} {out:Value} (h:PlAt w L out) (hb:Below w.heap.size w w'):PlAt w' L out:=by
  obtain ⟨b,b',xs,h1,h2⟩:=h.ex
  exact ⟨b,b',xs,ownsRow_mod (S:=fun _=>False) h1 (mod_none hb _) (fun _ _=>id),h2.mono (fun a ys hr=>hr.mod (mod_none hb (fun _=>False)) (fun _ _ _=>⟨id,trivial⟩))⟩
theorem PlAt.get {w:World} {L:List ITok} {out:Value} (h:PlAt w L out) {i:Nat} {p:ITok} (hi:L[i]?=some p):∃ g cap,out=.slice (some ⟨g,0,none⟩) L.length cap∧L.length ≤ cap∧∃ sa sl sc b,w.ownsRow b 62 3 (.slice sa sl sc) p.attrs.length (atCells p.attrs) ∧
    w.cell? ⟨g,i * 6,none⟩=some (.int .i64 p.kind)∧w.cell? ⟨g,i * 6 + 1,none⟩=some (strV p.space)∧w.cell? ⟨g,i * 6 + 2,none⟩=some (strV p.loc)∧w.cell? ⟨g,i * 6 + 3,none⟩=some (.slice sa sl sc)∧w.cell? ⟨g,i * 6 + 4,none⟩=some (strV p.text)∧w.cell? ⟨g,i * 6 + 5,none⟩=some (.int .i64 p.at'):=by
  obtain ⟨b,b',xs,h1,h2⟩:=h.ex
  have hl:0 < L.length:=Nat.lt_of_le_of_lt (Nat.zero_le _) (List.getElem?_eq_some_iff.1 hi).1
  obtain ⟨g,cap,rfl,_,_,hn,_,hcell⟩:=row_cell h1 hl
  obtain ⟨ys,⟨sa,sl,sc,rfl,hr,_⟩,hy⟩:=h2.get (n:=6) (fun _ _ h=>by obtain ⟨_,_,_,rfl,_⟩:=h;rfl) hi
  have hc:∀ j u,j < 6 → (plCells p (.slice sa sl sc))[j]?=some u → w.cell? ⟨g,i * 6 + j,none⟩=some u:=fun j u hj hu=>hcell _ _ ((hy j hj).trans hu)
  exact ⟨g,cap,rfl,hn,sa,sl,sc,b',hr,hc 0 _ (by omega) rfl,hc 1 _ (by omega) rfl,hc 2 _ (by omega) rfl,hc 3 _ (by omega) rfl,hc 4 _ (by omega) rfl,hc 5 _ (by omega) rfl⟩
theorem SrcTok.below {w w':World} {g o:Nat} {p:ITok} (h:SrcTok w g o p) (hb:Below w.heap.size w w') (hg:g < w.heap.size):SrcTok w' g o p:=by
  obtain ⟨⟨sa,sl,sc,i6,i7,c0,c1,c2,c3,c4,c5,c6,c7,hr⟩,hl⟩:=h
  have hc:∀ j,w'.cell? ⟨g,j,none⟩=w.cell? ⟨g,j,none⟩:=fun j=>hb.cell (p:=⟨g,j,none⟩) hg
  exact ⟨⟨sa,sl,sc,i6,i7,by rw [hc];exact c0,by rw [hc];exact c1,by rw [hc];exact c2,by rw [hc];exact c3,by rw [hc];exact c4,by rw [hc];exact c5,by rw [hc];exact c6,by rw [hc];exact c7,ownsRow_mod (S:=fun _=>False) hr (mod_none hb _) (fun _ _=>id)⟩,hl⟩
end Go.Proofs.YtkjnockljapnbaaGreatDoor
namespace Go.Proofs.YtkjnockljapnbaaGreatDoor
open Go Go.RowKit
def FiInv (v:Value) (l:List Bs) (w0:World) (k:Nat) (a:Act) (w:World):Prop:=
  ∃ f i,a=fr 18 f [(8,v),(9,.int .i64 l.length),(10,.int .i64 (i:Nat))]∧w=w0∧k=l.length - i∧i ≤ l.length∧(l.take i).all (fun a=>decide (a.length ≤ 2147483647))=true
def fitsL (l:List Bs):Bool:=decide (l.length ≤ 2147483647) && l.all (fun a=>decide (a.length ≤ 2147483647))
theorem fits3_c (w:World) (A:Option Addr) (C:Nat) (l:List Bs) (hat:0 < l.length → ∃ b o,A=some ⟨b,o,none⟩∧∀ j a,l[j]?=some a → w.cell? ⟨b,o + j,none⟩=some (strV a)) :
    Calls Tryz.prog 8 #[.slice A l.length C] w fun e w'=>e=.returned (.bool (fitsL l))∧w'=w:=by
  by_cases hbig:(2147483647:Int) < (l.length:Int)
  · have HR:=Lib.hid (show fitsL l=false by unfold fitsL;rw [decide_eq_false (by omega)];rfl)
    clear hat
    refine calls_fr (vs:=[_]) 18 Tryz.func8 rfl rfl (Nat.le_of_ble_eq_true rfl) fun f=>?_
    simp only [argSlots]
    (repeat (first|(with_reducible first|refine zA fun K hK=>?_|refine zB ?_|refine zC ?_)|((with_reducible first|refine zD rfl fun K hK=>?_|refine zE fun K hK=>?_);go_simp)|(with_reducible first|((repeat ((fail_if_success refine hK _ _ ?_);clear hK K));refine hK _ _ ?_;clear hK K)|refine zt ?_|refine zf ?_|refine zG ?_|refine zR ?_|refine zK ?_|refine zL ?_|refine zN ?_|refine zS ?_)|simp only [Exit.then,Exit.inBlock,Exit.noGoto,↓reduceIte,Nat.reduceEqDiff]|simp only [undef,reduceCtorEq,↓reduceIte]))
    (refine fr_out1 rfl (by decide) (by simp only [lk_cons,lk_nil,Nat.reduceEqDiff,↓reduceIte];rfl) ?_)
    exact ⟨by rw [HR.out],rfl⟩
  have HAT:=Lib.hid hat
  have HN:=Lib.hid (show l.length ≤ 2147483647 by omega)
  clear hat
  refine calls_fr (vs:=[_]) 18 Tryz.func8 rfl rfl (Nat.le_of_ble_eq_true rfl) fun f=>?_
  simp only [argSlots]
  (repeat (first|(with_reducible first|refine zA fun K hK=>?_|refine zB ?_|refine zC ?_)|((with_reducible first|refine zD rfl fun K hK=>?_|refine zE fun K hK=>?_);go_simp)|(with_reducible first|((repeat ((fail_if_success refine hK _ _ ?_);clear hK K));refine hK _ _ ?_;clear hK K)|refine zt ?_|refine zf ?_|refine zG ?_|refine zR ?_|refine zK ?_|refine zL ?_|refine zN ?_|refine zS ?_)|simp only [Exit.then,Exit.inBlock,Exit.noGoto,↓reduceIte,Nat.reduceEqDiff]|simp only [undef,reduceCtorEq,↓reduceIte]))
  (refine wp_keep [8,9,10] (fun f=>?_);simp only [keep_cons,keep_nil,lk_cons,lk_nil,Nat.reduceEqDiff,↓reduceIte])
  refine wp_loop_ghost_k (FiInv (.slice A l.length C) l w) l.length ⟨f,0,rfl,rfl,by simp,Nat.zero_le _,rfl⟩ ?_
  rintro k _ w2 ⟨f,i,rfl,rfl,hki,hi,hall⟩ J K2 hJ hK2
  have HJ:=Lib.hid hJ
  have HK2:=Lib.hid hK2
  have HK:=Lib.hid hki
  have HALL:=Lib.hid hall
  clear hJ hK2 hki hall
  by_cases hlt:i < l.length
  · have t1:(i:Int) < (l.length:Int):=by omega
    have t0:(0:Int) ≤ (i:Int):=by omega
    have w1:IntKind.i64.wrap ((i:Int) + 1)=((i + 1:Nat):Int):=by rw [IntKind.wrap_i64];have:=HN.out;omega
    obtain ⟨b,o,rfl,hcl⟩:=HAT.out (by omega)
    obtain ⟨a,ha⟩:∃ a,l[i]?=some a:=⟨l[i],by simp [hlt]⟩
    have hca:=hcl i a ha
    have htk:l.take (i + 1)=l.take i ++ [a]:=by rw [List.take_succ,ha];rfl
    have HTK:=Lib.hid htk
    have HA:=Lib.hid ha
    clear htk ha hcl
    by_cases hb:(2147483647:Int) < (a.length:Int)
    · have HR:=Lib.hid (show fitsL l=false by
        unfold fitsL
        rw [Bool.and_eq_false_iff]
        right
        rw [List.all_eq_false]
        exact ⟨a,List.mem_of_getElem? HA.out,by rw [decide_eq_false (by omega)];simp⟩)
      (repeat (first|(with_reducible first|refine zA fun K hK=>?_|refine zB ?_|refine zC ?_)|((with_reducible first|refine zD rfl fun K hK=>?_|refine zE fun K hK=>?_);go_simp)|(with_reducible first|((repeat ((fail_if_success refine hK _ _ ?_);clear hK K));refine hK _ _ ?_;clear hK K)|refine zt ?_|refine zf ?_|refine zG ?_|refine zR ?_|refine zK ?_|refine zL ?_|refine zN ?_|refine zS ?_)|simp only [Exit.then,Exit.inBlock,Exit.noGoto,↓reduceIte,Nat.reduceEqDiff]|simp only [undef,reduceCtorEq,↓reduceIte]))
      (refine fr_out1 rfl (by decide) (by simp only [lk_cons,lk_nil,Nat.reduceEqDiff,↓reduceIte];rfl) ?_)
      exact ⟨by rw [HR.out],rfl⟩
    · have HALL2:=Lib.hid (show (l.take (i + 1)).all (fun a=>decide (a.length ≤ 2147483647))=true by rw [HTK.out,List.all_append,HALL.out];simp;omega)
      (repeat (first|(with_reducible first|refine zA fun K hK=>?_|refine zB ?_|refine zC ?_)|((with_reducible first|refine zD rfl fun K hK=>?_|refine zE fun K hK=>?_);go_simp)|(with_reducible first|((repeat ((fail_if_success refine hK _ _ ?_);clear hK K));refine hK _ _ ?_;clear hK K)|refine zt ?_|refine zf ?_|refine zG ?_|refine zR ?_|refine zK ?_|refine zL ?_|refine zN ?_|refine zS ?_)|simp only [Exit.then,Exit.inBlock,Exit.noGoto,↓reduceIte,Nat.reduceEqDiff]|simp only [undef,reduceCtorEq,↓reduceIte]))
      (refine K_keep [8,9,10] (fun f=>?_);simp only [keep_cons,keep_nil,lk_cons,lk_nil,Nat.reduceEqDiff,↓reduceIte])
      exact HK2.out _ _ ⟨l.length - (i + 1),by rw [HK.out];omega,HJ.out _ _ _ ⟨f,i + 1,rfl,rfl,rfl,hlt,HALL2.out⟩⟩
  · have hii:i=l.length:=by omega
    subst hii
    have t1:¬ ((l.length:Int) < (l.length:Int)):=by omega
    have HR:=Lib.hid (show fitsL l=true by
      have h9:=HALL.out
      rw [List.take_length] at h9
      unfold fitsL
      rw [h9,decide_eq_true HN.out];rfl)
    (repeat (first|(with_reducible first|refine zA fun K hK=>?_|refine zB ?_|refine zC ?_)|((with_reducible first|refine zD rfl fun K hK=>?_|refine zE fun K hK=>?_);go_simp)|(with_reducible first|((repeat ((fail_if_success refine hK _ _ ?_);clear hK K));refine hK _ _ ?_;clear hK K)|refine zt ?_|refine zf ?_|refine zG ?_|refine zR ?_|refine zK ?_|refine zL ?_|refine zN ?_|refine zS ?_)|simp only [Exit.then,Exit.inBlock,Exit.noGoto,↓reduceIte,Nat.reduceEqDiff]|simp only [undef,reduceCtorEq,↓reduceIte]))
    (refine fr_out1 rfl (by decide) (by simp only [lk_cons,lk_nil,Nat.reduceEqDiff,↓reduceIte];rfl) ?_)
    exact ⟨by rw [HR.out],rfl⟩
def NmOk (p:Bs × Bs) (ys:List Value):Prop:=∃ k u tx i5 i6 i7,ys=tokCells k p.1 p.2 u tx i5 i6 i7
theorem NmOk.len {p:Bs × Bs} {ys:List Value} (h:NmOk p ys):ys.length=8:=by obtain ⟨_,_,_,_,_,_,rfl⟩:=h;rfl
structure OpRow (w:World) (base:Nat) (ov:Value) (op:List (Bs × Bs)):Prop where
  ex:∃ xs,w.ownsRow base 33 8 ov op.length xs∧RowsAt NmOk op.reverse xs
theorem RowsAt.pop {α:Type} {P:α → List Value → Prop} {n:Nat} (hn:∀ a ys,P a ys → ys.length=n) {l:List α} {a:α} {xs:List Value} (h:RowsAt P (l ++ [a]) xs):RowsAt P l (xs.take (l.length * n)):=by
  generalize hm:l ++ [a]=m at h
  cases h with
  | nil=>simp at hm
  | snoc h1 h2=>
    obtain ⟨rfl,h3⟩:=List.append_inj' hm rfl
    have hl:=h1.len hn
    rw [← hl,List.take_left' rfl]
    exact h1
theorem ownsRow_pop {w:World} {base g n cap:Nat} {e:TypeId} {sz:Nat} {xs:List Value} (h:w.ownsRow base e sz (.slice (some ⟨g,0,none⟩) (n + 1) cap) (n + 1) xs):w.ownsRow base e sz (.slice (some ⟨g,0,none⟩) n cap) n (xs.take (n * sz)):=by
  obtain ⟨h1,h2⟩:=h
  have hle:n * sz ≤ (n + 1) * sz:=Nat.mul_le_mul_right sz (by omega)
  refine ⟨by rw [List.length_take,h1];omega,?_⟩
  rcases h2 with ⟨h3,_⟩|⟨g',cap',cur,h3,h4,h5,h6,h7,h8,h9⟩
  · simp at h3
  · simp only [Value.slice.injEq,Option.some.injEq,Addr.mk.injEq] at h3
    obtain ⟨⟨rfl,_⟩,_,rfl⟩:=h3
    refine Or.inr ⟨_,_,cur,rfl,h4,h5,by omega,h7,h8,?_⟩
    rw [← h9,List.take_take,Nat.min_eq_left hle]
theorem OpRow.nil (w:World) (base:Nat):OpRow w base (.slice none 0 0) []:=⟨[],⟨rfl,Or.inl ⟨rfl,rfl⟩⟩,.nil⟩
theorem OpRow.top {w:World} {base:Nat} {ov:Value} {p:Bs × Bs} {op:List (Bs × Bs)} (h:OpRow w base ov (p :: op)) :
    ∃ g cap,ov=.slice (some ⟨g,0,none⟩) (op.length + 1) cap∧op.length + 1 ≤ cap∧cap ≤ maxLen∧w.cell? ⟨g,op.length * 8 + 1,none⟩=some (strV p.1)∧w.cell? ⟨g,op.length * 8 + 2,none⟩=some (strV p.2)∧OpRow w base (.slice (some ⟨g,0,none⟩) op.length cap) op:=by
  obtain ⟨xs,h1,h2⟩:=h.ex
  obtain ⟨g,cap,rfl,_,_,hc,hm,hcell⟩:=row_cell h1 (by simp)
  rw [List.reverse_cons] at h2
  have hi:(op.reverse ++ [p])[op.length]?=some p:=by simp
  obtain ⟨ys,⟨k,u,tx,i5,i6,i7,rfl⟩,hy⟩:=h2.get (n:=8) (fun _ _ h=>NmOk.len h) hi
  refine ⟨g,cap,rfl,hc,hm,?_,?_,⟨xs.take (op.length * 8),ownsRow_pop h1,?_⟩⟩
  · exact hcell _ _ ((hy 1 (by omega)).trans rfl)
  · exact hcell _ _ ((hy 2 (by omega)).trans rfl)
  · have:=RowsAt.pop (n:=8) (fun _ _ h=>NmOk.len h) h2
    simpa using this
theorem OpRow.mod {w w':World} {base:Nat} {ov:Value} {op:List (Bs × Bs)} (h:OpRow w base ov op) (hb:Below w.heap.size w w'):OpRow w' base ov op:=by
  obtain ⟨xs,h1,h2⟩:=h.ex
  exact ⟨xs,ownsRow_mod (S:=fun _=>False) h1 (mod_none hb _) (fun _ _=>id),h2⟩
end Go.Proofs.YtkjnockljapnbaaGreatDoor
namespace Go.Proofs.YtkjnockljapnbaaGreatDoor
open Go Go.RowKit
theorem bal_cells {w:World} {base g:Nat} {T:Bs} {l:List (RTok × St)} {xs:List Value} {G:Nat → Prop} (hrows:RowsAt (RowOk w base G T) l xs) (hcell:∀ k u,xs[k]?=some u → w.cell? ⟨g,k,none⟩=some u) {i:Nat} {ts:RTok × St} (hi:l[i]?=some ts) {p:ITok} (hp:p=ts.1.itok (T.take (T.length - ts.2.rest.length))) :
    ∃ sa sl sc,w.cell? ⟨g,i * 8,none⟩=some (.int .i64 p.kind)∧w.cell? ⟨g,i * 8 + 1,none⟩=some (strV p.space)∧w.cell? ⟨g,i * 8 + 2,none⟩=some (strV p.loc)∧w.cell? ⟨g,i * 8 + 3,none⟩=some (.slice sa sl sc)∧w.cell? ⟨g,i * 8 + 4,none⟩=some (strV p.text)∧w.cell? ⟨g,i * 8 + 5,none⟩=some (.int .i64 p.at') ∧
      w.cell? ⟨g,i * 8 + 6,none⟩=some (.int .i64 p.line)∧w.cell? ⟨g,i * 8 + 7,none⟩=some (.int .i64 p.col):=by
  subst hp
  obtain ⟨ys,⟨sa,sl,sc,i6,i7,rfl,hr,_,rfl,rfl⟩,hy⟩:=hrows.get (n:=8) (fun _ _ h=>h.len) hi
  have hc:∀ j u,j < 8 → (tokCells _ _ _ _ _ _ _ _)[j]?=some u → w.cell? ⟨g,i * 8 + j,none⟩=some u:=fun j u hj hu=>hcell _ _ ((hy j hj).trans hu)
  exact ⟨sa,sl,sc,hc 0 _ (by omega) rfl,hc 1 _ (by omega) rfl,hc 2 _ (by omega) rfl,hc 3 _ (by omega) rfl,hc 4 _ (by omega) rfl,hc 5 _ (by omega) rfl,hc 6 _ (by omega) rfl,hc 7 _ (by omega) rfl⟩
theorem bal_kind {strict:Bool} {op op':List (Bs × Bs)} {t:RTok} (h:balStep strict op t=some op') (pre:Bs) :
    ((t.itok pre).kind=1∧op'=((t.itok pre).space,(t.itok pre).loc) :: op) ∨ ((t.itok pre).kind=2∧∃ q,op=q :: op'∧(strict=true → q.1=(t.itok pre).space)∧q.2=(t.itok pre).loc) ∨ ((t.itok pre).kind ≠ 1∧(t.itok pre).kind ≠ 2∧op'=op):=by
  cases t with
  | start nm ats=>simp only [balStep,Option.some.injEq] at h;exact Or.inl ⟨rfl,h.symm⟩
  | fin nm=>
    cases op with
    | nil=>simp [balStep] at h
    | cons q op2=>
      simp only [balStep] at h
      split at h
      · cases h
      · rename_i hh
        simp only [Option.some.injEq] at h
        subst h
        refine Or.inr (Or.inl ⟨rfl,q,rfl,fun hs=>?_,?_⟩)
        · exact Classical.byContradiction fun h9=>hh (Or.inl ⟨hs,h9⟩)
        · exact Classical.byContradiction fun h9=>hh (Or.inr h9)
  | text d=>simp only [balStep,Option.some.injEq] at h;exact Or.inr (Or.inr ⟨by simp [RTok.itok],by simp [RTok.itok],h.symm⟩)
  | comment d=>simp only [balStep,Option.some.injEq] at h;exact Or.inr (Or.inr ⟨by simp [RTok.itok],by simp [RTok.itok],h.symm⟩)
  | dir d=>simp only [balStep,Option.some.injEq] at h;exact Or.inr (Or.inr ⟨by simp [RTok.itok],by simp [RTok.itok],h.symm⟩)
  | proc a b=>simp only [balStep,Option.some.injEq] at h;exact Or.inr (Or.inr ⟨by simp [RTok.itok],by simp [RTok.itok],h.symm⟩)
noncomputable def balCode (n:Nat):Code:=((Tryz.f3.body).bind (Code.partAt n)).getD .skip
def BalInv (loose:Bool) (tv ce:Value) (l:List (RTok × St)) (opf:List (Bs × Bs)) (w1:World) (k:Nat) (a:Act) (w:World):Prop:=
  ∃ f i ov op,a=fr 104 f [(2,.bool loose),(10,ce),(11,ov),(40,tv),(41,.int .i64 l.length),(42,.int .i64 (i:Nat))]∧Below w1.heap.size w1 w∧k=l.length - i∧i ≤ l.length∧balRun (!loose) op (l.drop i)=some opf∧OpRow w w1.heap.size ov op∧op.length ≤ i
theorem balLoop (T:Bs) (loose:Bool) (w1:World) (l:List (RTok × St)) (hl:l.length ≤ 1000000000) (ce:Value) (g cap:Nat) (hg:0 < l.length → g < w1.heap.size)
    (hcells:∀ i ts,l[i]?=some ts → ∀ p,p=ts.1.itok (T.take (T.length - ts.2.rest.length)) → ∃ sa sl sc,w1.cell? ⟨g,i * 8,none⟩=some (.int .i64 p.kind)∧w1.cell? ⟨g,i * 8 + 1,none⟩=some (strV p.space)∧w1.cell? ⟨g,i * 8 + 2,none⟩=some (strV p.loc)∧w1.cell? ⟨g,i * 8 + 3,none⟩=some (.slice sa sl sc)∧w1.cell? ⟨g,i * 8 + 4,none⟩=some (strV p.text)∧w1.cell? ⟨g,i * 8 + 5,none⟩=some (.int .i64 p.at') ∧
      w1.cell? ⟨g,i * 8 + 6,none⟩=some (.int .i64 p.line)∧w1.cell? ⟨g,i * 8 + 7,none⟩=some (.int .i64 p.col))
    (opf:List (Bs × Bs)) (hrun:balRun (!loose) [] l=some opf)
    (tv:Value) (htv:tv=.slice (some ⟨g,0,none⟩) l.length cap ∨ l=[])
    (Q:Exit → Act → World → Prop) (hQ:∀ f w' ov,Below w1.heap.size w1 w' → OpRow w' w1.heap.size ov opf → Q .normal (fr 104 f [(10,ce),(11,ov)]) w') (f:Nat → Value) (c1:Code) (hc1:c1=.loop (balCode 8)) :
    c1.wp Tryz.prog (Exit.inBlock 0 Q) (fr 104 f [(2,.bool loose),(10,ce),(11,.slice none 0 0),(40,tv),(41,.int .i64 l.length),(42,.int .i64 0)]) w1:=by
  subst hc1
  have HQ:=Lib.hid hQ
  have HL:=Lib.hid hl
  have HG:=Lib.hid hg
  have HCE:=Lib.hid hcells
  have HTV:=Lib.hid htv
  refine wp_loop_ghost_k (BalInv loose tv ce l opf w1) l.length ⟨f,0,_,[],rfl,Below.refl _ w1,by simp,Nat.zero_le _,hrun,OpRow.nil _ _,Nat.zero_le _⟩ ?_
  clear hQ hl hg hcells htv hrun
  rintro k _ w ⟨f,i,ov,op,rfl,hb,hk,hi,hrun,hop,hopl⟩ J K2 hJ hK2
  have HJ:=Lib.hid hJ
  have HK2:=Lib.hid hK2
  have HB:=Lib.hid hb
  have HK:=Lib.hid hk
  have HRUN:=Lib.hid hrun
  have HOP:=Lib.hid hop
  have HOL:=Lib.hid hopl
  clear hJ hK2 hb hk hrun hop hopl
  unfold balCode
  conv=>arg 2;whnf
  by_cases hlt:i < l.length
  · have h1:(i:Int) < (l.length:Int):=by omega
    have h0:(0:Int) ≤ (i:Int):=by omega
    have hw1:IntKind.i64.wrap ((i:Int) + 1)=((i + 1:Nat):Int):=by rw [IntKind.wrap_i64];have:=HL.out;omega
    obtain ⟨⟨t,s⟩,hts⟩:∃ ts,l[i]?=some ts:=⟨l[i],by simp [hlt]⟩
    have hgl:=HG.out (by omega)
    have htv:tv=.slice (some ⟨g,0,none⟩) l.length cap:=by
      rcases HTV.out with h|h
      · exact h
      · rw [h] at hlt;simp at hlt
    subst htv
    have hdrop:l.drop i=(t,s) :: l.drop (i + 1):=by rw [List.drop_eq_getElem_cons hlt];congr 1;rw [List.getElem?_eq_getElem hlt] at hts;simpa using hts
    have hstep:∃ op',balStep (!loose) op t=some op'∧balRun (!loose) op' (l.drop (i + 1))=some opf:=by
      have h9:=HRUN.out
      rw [hdrop] at h9
      unfold balRun at h9
      cases hs:balStep (!loose) op t with
      | none=>rw [hs] at h9;cases h9
      | some op'=>rw [hs] at h9;exact ⟨op',rfl,h9⟩
    obtain ⟨op',hst,hrest⟩:=hstep
    have hkd:=bal_kind hst (T.take (T.length - s.rest.length))
    have HREST:=Lib.hid hrest
    obtain ⟨p,hp⟩:∃ p,p=t.itok (T.take (T.length - s.rest.length)):=⟨_,rfl⟩
    obtain ⟨sa,sl,sc,c0,c1,c2,c3,c4,c5,c6,c7⟩:=HCE.out i (t,s) hts p hp
    rw [← hp] at hkd
    have HKD:=Lib.hid hkd
    have hcw:∀ j,w.cell? ⟨g,j,none⟩=w1.cell? ⟨g,j,none⟩:=fun j=>HB.out.cell (p:=⟨g,j,none⟩) hgl
    rw [← hcw] at c0 c1 c2 c3 c4 c5 c6 c7
    obtain ⟨wa,hwa⟩:∃ wa,wa=w.alloc (.cells #[.int .i64 p.kind,strV p.space,strV p.loc,.slice sa sl sc,strV p.text,.int .i64 p.at',.int .i64 p.line,.int .i64 p.col] 33):=⟨_,rfl⟩
    have hbl:Below w.heap.size w wa:=by rw [hwa];exact (Below.refl _ w).alloc (Nat.le_refl _) _
    have hba:Blk wa w.heap.size #[.int .i64 p.kind,strV p.space,strV p.loc,.slice sa sl sc,strV p.text,.int .i64 p.at',.int .i64 p.line,.int .i64 p.col] 33:=by rw [hwa];exact Blk.new w _ _
    have HBW:=Lib.hid (HB.out.trans (hbl.mono HB.out.size))
    have HOPA:=Lib.hid (HOP.out.mod hbl)
    have hc8:=hba.cell
    clear hp hcw hbl hts hba hdrop hst hrest hkd
    obtain ⟨ovA,ovN,ovC,rfl⟩:∃ a n c,ov=.slice a n c:=by obtain ⟨_,h9,_⟩:=HOP.out.ex;exact ownsRow_slice h9
    have hovn:ovN=op.length:=by obtain ⟨_,h9,_⟩:=HOP.out.ex;exact row_len h9
    subst hovn
    (repeat ((fail_if_success with_reducible refine wp_stop 10 ?_);(fail_if_success with_reducible refine wp_stop2 10 ?_);(first|(with_reducible first|refine zA fun K hK=>?_|refine zB ?_|refine zC ?_)|((with_reducible first|refine zD rfl fun K hK=>?_|refine zE fun K hK=>?_);go_simp)|(with_reducible first|((repeat ((fail_if_success refine hK _ _ ?_);clear hK K));refine hK _ _ ?_;clear hK K)|refine zt ?_|refine zf ?_|refine zG ?_|refine zR ?_|refine zK ?_|refine zL ?_|refine zN ?_|refine zS ?_)|simp only [Exit.then,Exit.inBlock,Exit.noGoto,↓reduceIte,Nat.reduceEqDiff]|simp only [undef,reduceCtorEq,↓reduceIte])))
    rw [show w.alloc (.cells #[.int .i64 p.kind,.string ⟨List.toArray p.space⟩,.string ⟨List.toArray p.loc⟩,.slice sa sl sc,.string ⟨List.toArray p.text⟩,.int .i64 p.at',.int .i64 p.line,.int .i64 p.col] 33)=wa from hwa.symm]
    clear hwa c0 c1 c2 c3 c4 c5 c6 c7
    rcases HKD.out with ⟨k1,k2⟩|⟨k1,q,k2,k3,k4⟩|⟨k1,k2,k3⟩
    · rw [k1] at hc8
      subst k2
      obtain ⟨xs,ho1,ho2⟩:=HOPA.out.ex
      obtain ⟨tv',w4,hrn,hown,hgr,hob⟩:=tok_append2 wa w1.heap.size HBW.out.size (.slice ovA op.length ovC) op.length (by have:=HOL.out;have:=HL.out;omega) xs ho1 1 p.space p.loc (.slice sa sl sc) rfl p.text p.at' p.line p.col
      have hr4:OpRow w4 w1.heap.size tv' ((p.space,p.loc) :: op):=⟨_,hown,by rw [List.reverse_cons];exact .snoc ho2 ⟨_,_,_,_,_,_,rfl⟩⟩
      have hb4:Below w1.heap.size w1 w4:=by
        refine Mod.below (S:=fun k=>(Value.slice ovA op.length ovC).ownBlock=some k) (HBW.out.trans (((Below.refl _ wa).alloc (Nat.le_refl _) _).mono HBW.out.size)) ?_ ⟨hgr.os,hgr.tape,hgr.output,hgr.size,fun k hk hn=>hgr.block k hk (fun he=>hn he.symm)⟩ (fun k hk=>(ownsRow_lt ho1 hk).2)
        exact Nat.le_trans HBW.out.size (by simp)
      have HR4:=Lib.hid hr4
      have HB4:=Lib.hid hb4
      clear hr4 hb4 hown hgr hob ho1 ho2
      (repeat ((fail_if_success at_builtin);(first|(with_reducible first|refine zA fun K hK=>?_|refine zB ?_|refine zC ?_)|((with_reducible first|refine zD rfl fun K hK=>?_|refine zE fun K hK=>?_);go_simp)|(with_reducible first|((repeat ((fail_if_success refine hK _ _ ?_);clear hK K));refine hK _ _ ?_;clear hK K)|refine zt ?_|refine zf ?_|refine zG ?_|refine zR ?_|refine zK ?_|refine zL ?_|refine zN ?_|refine zS ?_)|simp only [Exit.then,Exit.inBlock,Exit.noGoto,↓reduceIte,Nat.reduceEqDiff]|simp only [undef,reduceCtorEq,↓reduceIte])))
      refine wpList_app rfl (.tmp 56) (.tmp 58) _ _ rfl _ _ _ (by rw [fr_eval (by decide)];(try simp only [keep_cons,keep_nil,lk_cons,lk_nil,Nat.reduceEqDiff,↓reduceIte]);(try rfl)) (by rw [fr_eval (by decide)];(try simp only [keep_cons,keep_nil,lk_cons,lk_nil,Nat.reduceEqDiff,↓reduceIte]);(try rfl)) hrn ?_
      clear hrn
      rw [fr_put (by decide)]
      (repeat (first|(with_reducible first|refine zA fun K hK=>?_|refine zB ?_|refine zC ?_)|((with_reducible first|refine zD rfl fun K hK=>?_|refine zE fun K hK=>?_);go_simp)|(with_reducible first|((repeat ((fail_if_success refine hK _ _ ?_);clear hK K));refine hK _ _ ?_;clear hK K)|refine zt ?_|refine zf ?_|refine zG ?_|refine zR ?_|refine zK ?_|refine zL ?_|refine zN ?_|refine zS ?_)|simp only [Exit.then,Exit.inBlock,Exit.noGoto,↓reduceIte,Nat.reduceEqDiff]|simp only [undef,reduceCtorEq,↓reduceIte]))
      (refine K_keep [2,10,11,40,41,42] (fun f=>?_);simp only [keep_cons,keep_nil,lk_cons,lk_nil,Nat.reduceEqDiff,↓reduceIte])
      exact HK2.out _ _ ⟨l.length - (i + 1),by rw [HK.out];omega,HJ.out _ _ _ ⟨f,i + 1,_,_,rfl,HB4.out,rfl,hlt,HREST.out,HR4.out,by have:=HOL.out;simp;omega⟩⟩
    · rw [k1] at hc8
      subst k2
      obtain ⟨go,co9,hv,hc1,hc2,d1,d2,hpop⟩:=HOPA.out.top
      simp only [Value.slice.injEq] at hv
      obtain ⟨rfl,hv2,rfl⟩:=hv
      have HPOP:=Lib.hid hpop
      rw [k4] at d2
      have hn0:((op'.length + 1:Nat):Int)=(op'.length:Int) + 1:=by omega
      have hw2:IntKind.i64.wrap (op'.length:Int)=(op'.length:Int):=by rw [IntKind.wrap_i64];have:=HOL.out;simp at this;have:=HL.out;omega
      have hj0:(0:Int) ≤ (op'.length:Int):=by omega
      have hj1:(op'.length:Int) ≤ (ovC:Int):=by omega
      have hj2:(op'.length:Int) < (op'.length:Int) + 1:=by omega
      have hj3:((op'.length:Int) + 1 == 0)=false:=by simp;omega
      clear hv2 hpop
      rw [show (q :: op').length=op'.length + 1 from rfl]
      cases loose with
      | true=>
        (repeat (first|(with_reducible first|refine zA fun K hK=>?_|refine zB ?_|refine zC ?_)|((with_reducible first|refine zD rfl fun K hK=>?_|refine zE fun K hK=>?_);go_simp)|(with_reducible first|((repeat ((fail_if_success refine hK _ _ ?_);clear hK K));refine hK _ _ ?_;clear hK K)|refine zt ?_|refine zf ?_|refine zG ?_|refine zR ?_|refine zK ?_|refine zL ?_|refine zN ?_|refine zS ?_)|simp only [Exit.then,Exit.inBlock,Exit.noGoto,↓reduceIte,Nat.reduceEqDiff]|simp only [undef,reduceCtorEq,↓reduceIte]))
        (refine wp_region_pi [0,0,0,0,0,0,0,0,0,0,0,1,0,1,0,0,0,0,0,0,0,0,0,1,0,1,0,0,0] [0,1,2,3,4,5,6,7,8,9,10,11,12,13,14,15,16,17,18,19,20,21,22,23,24,25,26,27,28] (by kernel_rfl) (by kernel_rfl) ?_;repeat (first|(with_reducible refine wpPi_nil (fun nq=>?_))|((with_reducible refine wpPi_free rfl rfl (fun K hK=>?_));go_simp;refine hK _ ?_;clear hK K)|((with_reducible refine wpPi_quiet rfl rfl (fun K hK=>?_));go_simp;refine hK _ ?_;clear hK K)|((with_reducible refine wpPi_eff rfl rfl (fun nq K hK=>?_));go_simp;refine hK.out _ _ ?_;clear hK K)))
        (repeat (first|(with_reducible first|refine zA fun K hK=>?_|refine zB ?_|refine zC ?_)|((with_reducible first|refine zD rfl fun K hK=>?_|refine zE fun K hK=>?_);go_simp)|(with_reducible first|((repeat ((fail_if_success refine hK _ _ ?_);clear hK K));refine hK _ _ ?_;clear hK K)|refine zt ?_|refine zf ?_|refine zG ?_|refine zR ?_|refine zK ?_|refine zL ?_|refine zN ?_|refine zS ?_)|simp only [Exit.then,Exit.inBlock,Exit.noGoto,↓reduceIte,Nat.reduceEqDiff]|simp only [undef,reduceCtorEq,↓reduceIte]))
        (refine K_keep [2,10,11,40,41,42] (fun f=>?_);simp only [keep_cons,keep_nil,lk_cons,lk_nil,Nat.reduceEqDiff,↓reduceIte])
        exact HK2.out _ _ ⟨l.length - (i + 1),by rw [HK.out];omega,HJ.out _ _ _ ⟨f,i + 1,_,_,rfl,Below_drewN HBW.out _,rfl,hlt,HREST.out,HPOP.out.mod ⟨rfl,rfl,rfl,Nat.le_refl _,fun _ _=>rfl⟩,by have:=HOL.out;simp at this;omega⟩⟩
      | false=>
        rw [k3 rfl] at d1
        (repeat (first|(with_reducible first|refine zA fun K hK=>?_|refine zB ?_|refine zC ?_)|((with_reducible first|refine zD rfl fun K hK=>?_|refine zE fun K hK=>?_);go_simp)|(with_reducible first|((repeat ((fail_if_success refine hK _ _ ?_);clear hK K));refine hK _ _ ?_;clear hK K)|refine zt ?_|refine zf ?_|refine zG ?_|refine zR ?_|refine zK ?_|refine zL ?_|refine zN ?_|refine zS ?_)|simp only [Exit.then,Exit.inBlock,Exit.noGoto,↓reduceIte,Nat.reduceEqDiff]|simp only [undef,reduceCtorEq,↓reduceIte]))
        (refine wp_region_pi [0,0,0,0,0,0,0,0,0,0,0,1,0,1,0,0,0,0,0,0,0,0,0,1,0,1,0,0,0] [0,1,2,3,4,5,6,7,8,9,10,11,12,13,14,15,16,17,18,19,20,21,22,23,24,25,26,27,28] (by kernel_rfl) (by kernel_rfl) ?_;repeat (first|(with_reducible refine wpPi_nil (fun nq=>?_))|((with_reducible refine wpPi_free rfl rfl (fun K hK=>?_));go_simp;refine hK _ ?_;clear hK K)|((with_reducible refine wpPi_quiet rfl rfl (fun K hK=>?_));go_simp;refine hK _ ?_;clear hK K)|((with_reducible refine wpPi_eff rfl rfl (fun nq K hK=>?_));go_simp;refine hK.out _ _ ?_;clear hK K)))
        (repeat (first|(with_reducible first|refine zA fun K hK=>?_|refine zB ?_|refine zC ?_)|((with_reducible first|refine zD rfl fun K hK=>?_|refine zE fun K hK=>?_);go_simp)|(with_reducible first|((repeat ((fail_if_success refine hK _ _ ?_);clear hK K));refine hK _ _ ?_;clear hK K)|refine zt ?_|refine zf ?_|refine zG ?_|refine zR ?_|refine zK ?_|refine zL ?_|refine zN ?_|refine zS ?_)|simp only [Exit.then,Exit.inBlock,Exit.noGoto,↓reduceIte,Nat.reduceEqDiff]|simp only [undef,reduceCtorEq,↓reduceIte]))
        (refine K_keep [2,10,11,40,41,42] (fun f=>?_);simp only [keep_cons,keep_nil,lk_cons,lk_nil,Nat.reduceEqDiff,↓reduceIte])
        exact HK2.out _ _ ⟨l.length - (i + 1),by rw [HK.out];omega,HJ.out _ _ _ ⟨f,i + 1,_,_,rfl,Below_drewN HBW.out _,rfl,hlt,HREST.out,HPOP.out.mod ⟨rfl,rfl,rfl,Nat.le_refl _,fun _ _=>rfl⟩,by have:=HOL.out;simp at this;omega⟩⟩
    · have e1:((p.kind:Int) == 1)=false:=by simp;omega
      have e2:((p.kind:Int) != 2)=true:=by simp;omega
      subst k3
      (repeat (first|(with_reducible first|refine zA fun K hK=>?_|refine zB ?_|refine zC ?_)|((with_reducible first|refine zD rfl fun K hK=>?_|refine zE fun K hK=>?_);go_simp)|(with_reducible first|((repeat ((fail_if_success refine hK _ _ ?_);clear hK K));refine hK _ _ ?_;clear hK K)|refine zt ?_|refine zf ?_|refine zG ?_|refine zR ?_|refine zK ?_|refine zL ?_|refine zN ?_|refine zS ?_)|simp only [Exit.then,Exit.inBlock,Exit.noGoto,↓reduceIte,Nat.reduceEqDiff]|simp only [undef,reduceCtorEq,↓reduceIte]))
      (refine K_keep [2,10,11,40,41,42] (fun f=>?_);simp only [keep_cons,keep_nil,lk_cons,lk_nil,Nat.reduceEqDiff,↓reduceIte])
      exact HK2.out _ _ ⟨l.length - (i + 1),by rw [HK.out];omega,HJ.out _ _ _ ⟨f,i + 1,_,_,rfl,HBW.out,rfl,hlt,HREST.out,HOPA.out,by have:=HOL.out;omega⟩⟩
  · have hii:i=l.length:=by omega
    subst hii
    have h1:¬ ((l.length:Int) < (l.length:Int)):=by omega
    have h9:=HRUN.out
    rw [List.drop_length] at h9
    have h8:op=opf:=by simpa [balRun] using h9
    subst h8
    clear h9
    (repeat (first|(with_reducible first|refine zA fun K hK=>?_|refine zB ?_|refine zC ?_)|((with_reducible first|refine zD rfl fun K hK=>?_|refine zE fun K hK=>?_);go_simp)|(with_reducible first|((repeat ((fail_if_success refine hK _ _ ?_);clear hK K));refine hK _ _ ?_;clear hK K)|refine zt ?_|refine zf ?_|refine zG ?_|refine zR ?_|refine zK ?_|refine zL ?_|refine zN ?_|refine zS ?_)|simp only [Exit.then,Exit.inBlock,Exit.noGoto,↓reduceIte,Nat.reduceEqDiff]|simp only [undef,reduceCtorEq,↓reduceIte]))
    refine Q_keep [10,11] (fun f=>?_);simp only [keep_cons,keep_nil,lk_cons,lk_nil,Nat.reduceEqDiff,↓reduceIte]
    exact HQ.out f w _ HB.out HOP.out
end Go.Proofs.YtkjnockljapnbaaGreatDoor
