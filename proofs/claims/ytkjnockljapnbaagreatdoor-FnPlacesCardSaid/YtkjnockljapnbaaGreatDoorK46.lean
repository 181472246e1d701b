/- Part of the proof that laws.FnBeginning, laws.FnPlaces returns true for every argument (Iw, Ix, Iy, Iz). No condition of its own. -/
import Derived.Test.YtkjnockljapnbaaGreatDoorK42
import Derived.Test.YtkjnockljapnbaaGreatDoorK45
set_option linter.all false
set_option maxHeartbeats 8000000
set_option maxRecDepth 100000
namespace Go.Proofs.YtkjnockljapnbaaGreatDoor
open Go Go.RowKit
inductive RowsAt {α:Type} (P:α → List Value → Prop):List α → List Value → Prop
  | nil:RowsAt P [] []
  | snoc {l a xs ys}:RowsAt P l xs → P a ys → RowsAt P (l ++ [a]) (xs ++ ys)
theorem RowsAt.mono {α:Type} {P P':α → List Value → Prop} (hm:∀ a ys,P a ys → P' a ys) {l:List α} {xs:List Value} (h:RowsAt P l xs):RowsAt P' l xs:=by
  induction h with
  | nil=>exact .nil
  | snoc _ hp ih=>exact .snoc ih (hm _ _ hp)
theorem RowsAt.len {α:Type} {P:α → List Value → Prop} {n:Nat} (hn:∀ a ys,P a ys → ys.length=n) {l:List α} {xs:List Value} (h:RowsAt P l xs):xs.length=l.length * n:=by
  induction h with
  | nil=>simp
  | snoc _ hp ih=>rw [List.length_append,ih,hn _ _ hp,List.length_append];simp [Nat.add_mul]
theorem RowsAt.get {α:Type} {P:α → List Value → Prop} {n:Nat} (hn:∀ a ys,P a ys → ys.length=n) {l:List α} {xs:List Value} (h:RowsAt P l xs) {i:Nat} {a:α} (ha:l[i]?=some a):∃ ys,P a ys∧∀ j,j < n → xs[i * n + j]?=ys[j]?:=by
  induction h with
  | nil=>simp at ha
  | snoc hr hp ih=>
    rename_i l0 a0 xs0 ys0
    have hl:=hr.len hn
    rcases Nat.lt_or_ge i l0.length with hi|hi
    · rw [List.getElem?_append_left hi] at ha
      obtain ⟨ys,h1,h2⟩:=ih ha
      refine ⟨ys,h1,fun j hj=>?_⟩
      have:i * n + j < xs0.length:=by
        rw [hl]
        have:(i + 1) * n ≤ l0.length * n:=Nat.mul_le_mul_right n hi
        rw [Nat.add_mul] at this;omega
      rw [List.getElem?_append_left this];exact h2 j hj
    · have hi2:i=l0.length:=by
        have:=(List.getElem?_eq_some_iff.1 ha).1
        simp at this;omega
      subst hi2
      rw [List.getElem?_append_right (Nat.le_refl _)] at ha
      simp at ha
      subst ha
      refine ⟨ys0,hp,fun j hj=>?_⟩
      rw [List.getElem?_append_right (by rw [hl];omega),hl]
      congr 1;omega
def RowOk (w:World) (base:Nat) (G:Nat → Prop) (T:Bs) (ts:RTok × St) (ys:List Value):Prop:=
  ∃ sa sl sc i6 i7,ys=tokCells (ts.1.itok (T.take (T.length - ts.2.rest.length))).kind (ts.1.itok (T.take (T.length - ts.2.rest.length))).space (ts.1.itok (T.take (T.length - ts.2.rest.length))).loc (.slice sa sl sc) (ts.1.itok (T.take (T.length - ts.2.rest.length))).text (ts.1.itok (T.take (T.length - ts.2.rest.length))).at' i6 i7 ∧
    w.ownsRow base 61 3 (.slice sa sl sc) (ts.1.itok (T.take (T.length - ts.2.rest.length))).attrs.length (atCells (ts.1.itok (T.take (T.length - ts.2.rest.length))).attrs)∧(∀ k,(Value.slice sa sl sc).ownBlock=some k → G k)∧i6=((ts.1.itok (T.take (T.length - ts.2.rest.length))).line:Nat)∧i7=((ts.1.itok (T.take (T.length - ts.2.rest.length))).col:Nat)
theorem RowOk.len {w:World} {base:Nat} {G:Nat → Prop} {T:Bs} {ts:RTok × St} {ys:List Value} (h:RowOk w base G T ts ys):ys.length=8:=by
  obtain ⟨_,_,_,_,_,rfl,_⟩:=h
  rfl
theorem RowOk.mod {w w':World} {base:Nat} {G G':Nat → Prop} {T:Bs} {ts:RTok × St} {ys:List Value} {S:Nat → Prop} (h:RowOk w base G T ts ys) (hm:Mod S w w') (hG:∀ k,G k → k < w.heap.size → ¬ S k∧G' k):RowOk w' base G' T ts ys:=by
  obtain ⟨sa,sl,sc,i6,i7,rfl,hr,hg,hi⟩:=h
  refine ⟨sa,sl,sc,i6,i7,rfl,ownsRow_mod hr hm (fun k hk=>(hG k (hg k hk) (ownsRow_lt hr hk).1).1),fun k hk=>(hG k (hg k hk) (ownsRow_lt hr hk).1).2,hi⟩
theorem RawSt.ts {x:Cx} {c:DC} {w:World} {v:DV} {s:St} {m:Nat} {sb fb:List Nat} {n B:Nat} {tv:Value} {tk:RTok} (h:RawSt x c w v s m sb fb n B tv tk):TS x c w v s m sb fb n:=
  ⟨h.cfg,h.rd,h.own,h.sok,h.nok,h.tcl,by have:=h.bnd;omega⟩
theorem rawToken_c (x:Cx) (hx:x.All) (haf:AfTab x.W0) (hafB:3 < x.B) (c:DC) (w:World) (v:DV) (s:St) (m:Nat) (sb fb:List Nat) (n:Nat) (h:TS x c w v s m sb fb n) :
    Calls Tryz.prog 16 #[decP x] w fun en w'=>∃ t e,en=.returned (.tuple #[t,e])∧TkPost x w v (rawL x.o s) m sb fb t e w':=by
  have hraw:=Lib.hid (rawTok_c x hx haf hafB c h.cfg.dc h.cfg.no w v s h.rd)
  have H:=Lib.hid h
  have HX:=Lib.hid hx
  clear h hx haf hafB
  refine calls_fr (vs:=[_]) 8 Tryz.func16 rfl rfl (Nat.le_of_ble_eq_true rfl) fun f=>?_
  simp only [argSlots]
  (repeat (first|(with_reducible first|refine zA fun K hK=>?_|refine zB ?_|refine zC ?_)|((with_reducible first|refine zD rfl fun K hK=>?_|refine zE fun K hK=>?_);go_simp)|(with_reducible first|((repeat ((fail_if_success refine hK _ _ ?_);clear hK K));refine hK _ _ ?_;clear hK K)|refine zT (by go_simp;first|done|omega) ?_|refine zF (by go_simp;first|done|omega) ?_|refine zG ?_|refine zR ?_|refine zK ?_|refine zL ?_|refine zN ?_|refine zS ?_)|simp only [Exit.then,Exit.inBlock,Exit.noGoto,↓reduceIte,Nat.reduceEqDiff]|simp only [undef,reduceCtorEq,↓reduceIte]))
  refine hraw.out.mono ?_
  rintro e1 w1 ⟨t,e,rfl,hp⟩
  have HP:=Lib.hid hp
  clear hp hraw
  go_simp
  (repeat (first|(with_reducible first|refine zA fun K hK=>?_|refine zB ?_|refine zC ?_)|((with_reducible first|refine zD rfl fun K hK=>?_|refine zE fun K hK=>?_);go_simp)|(with_reducible first|((repeat ((fail_if_success refine hK _ _ ?_);clear hK K));refine hK _ _ ?_;clear hK K)|refine zT (by go_simp;first|done|omega) ?_|refine zF (by go_simp;first|done|omega) ?_|refine zG ?_|refine zR ?_|refine zK ?_|refine zL ?_|refine zN ?_|refine zS ?_)|simp only [Exit.then,Exit.inBlock,Exit.noGoto,↓reduceIte,Nat.reduceEqDiff]|simp only [undef,reduceCtorEq,↓reduceIte]))
  (refine fr_out2 rfl (by decide) (by decide) (by simp only [lk_cons,lk_nil,Nat.reduceEqDiff,↓reduceIte];rfl) (by simp only [lk_cons,lk_nil,Nat.reduceEqDiff,↓reduceIte];rfl) ?_)
  refine ⟨t,e,rfl,?_⟩
  have hp:=HP.out
  unfold RawTokPost at hp
  unfold TkPost
  cases hres:rawL x.o s with
  | error k=>
    rw [hres] at hp
    obtain ⟨v',hs,rfl,rfl,hE,hO⟩:=hp
    exact ⟨rfl,hE.err,hE.base,hO,hs.mod.mono (fun _ _ hk=>Or.inl hk)⟩
  | ok p=>
    obtain ⟨tk,s1⟩:=p
    rw [hres] at hp
    obtain ⟨v1,c1,hs,rfl,hsc,hrd,ht,hnt⟩:=hp
    have hst:=H.out.raw HX.out hres hs hsc hrd ht hnt
    refine ⟨rfl,c1,v1,sb,fb,n,hst.ts,ht,hs.mod.mono (fun _ _ hk=>Or.inl hk),fun b hb=>Or.inl hb,fun b hb=>?_,fun g hg=>?_⟩
    · rcases hb with hb|hb
      · exact Or.inl (Or.inl hb)
      · rcases hs.buf b hb with h9|h9
        · exact Or.inl (Or.inr h9)
        · exact Or.inr h9
    · have hgB:=ht.blk hg
      refine ⟨fun hh=>by have:=H.out.own.lt g hh;omega,?_⟩
      obtain ⟨e1,b1,hR1,_,_⟩:=hrd.rd
      cases tk with
      | start nm ats=>
        obtain ⟨sv,rfl,hne,hrow⟩:=ht
        rcases hrow.2 with h9|⟨g',cap,cur,rfl,_,hgc,_⟩
        · exact absurd (h9.2 ▸ h9.1) hne
        · have h9:g=g':=hg
          subst h9
          exact hR1.notRow hgc (fun hh=>by have:=hst.hBS g hh;omega)
      | fin nm=>rw [show t=enV nm from ht] at hg;exact hg.elim
      | text d=>obtain ⟨sv,rfl,hd⟩:=ht;obtain ⟨_,_,_,rfl⟩:=hd.slice;exact hg.elim
      | comment d=>obtain ⟨sv,rfl,hd⟩:=ht;obtain ⟨_,_,_,rfl⟩:=hd.slice;exact hg.elim
      | dir d=>obtain ⟨sv,rfl,hd⟩:=ht;obtain ⟨_,_,_,rfl⟩:=hd.slice;exact hg.elim
      | proc tg d=>obtain ⟨sv,rfl,hd⟩:=ht;exact hg.elim
end Go.Proofs.YtkjnockljapnbaaGreatDoor
namespace Go.Proofs.YtkjnockljapnbaaGreatDoor
open Go Go.RowKit
structure EnvA (w:World):Prop extends Env w where
  af:AfTab w
  afB:3 < w.heap.size
  et:w.cell? ⟨1,0,none⟩=some (rtI 55)
  etB:1 < w.heap.size
  eofB:∀ a:Addr,w.cell? ⟨0,0,none⟩=some (errV a) → ∃ cs t,Blk w a.block cs t
theorem EnvA.below {w w':World} (h:EnvA w) (hb:Below w.heap.size w w'):EnvA w':=by
  refine ⟨h.toEnv.below hb,h.af.below hb,Nat.lt_of_lt_of_le h.afB hb.size,by rw [hb.cell (p:=⟨_,0,none⟩) h.etB];exact h.et,Nat.lt_of_lt_of_le h.etB hb.size,fun a ha=>?_⟩
  rw [hb.cell (p:=⟨_,0,none⟩) h.gB] at ha
  obtain ⟨cs,t,hbk⟩:=h.eofB a ha
  exact ⟨cs,t,Blk.mod (S:=fun _=>False) hbk (mod_none hb _) id⟩
theorem NsAt.of {w:World} {m:Nat} (h:w.heap[m]?=some (.map #[] 0)):NsAt w m 0 (fun _=>none):=by
  have hm:m < w.heap.size:=by
    rcases Nat.lt_or_ge m w.heap.size with h'|h'
    · exact h'
    · rw [Array.getElem?_eq_none h'] at h;cases h
  obtain ⟨w0,hw0⟩:∃ w0:World,w0.heap.size=m:=⟨{ w with heap:=w.heap.extract 0 m },by simp;omega⟩
  have hmd:=NsAt.made w0
  rw [hw0] at hmd
  obtain ⟨D,⟨es,cl,hb,F,hs,hD⟩,h2⟩:=hmd
  have he:(w0.alloc (.map #[] 0)).heap[m]?=some (.map #[] 0):=by
    show (w0.heap.push _)[m]?=_
    rw [← hw0];simp
  rw [he] at hb
  exact ⟨D,⟨es,cl,h.trans hb,F,hs,hD⟩,h2⟩
theorem TS.mod {x:Cx} {c:DC} {w w':World} {v:DV} {s:St} {m:Nat} {sb fb:List Nat} {n:Nat} {S:Nat → Prop} (h:TS x c w v s m sb fb n) (hm:Mod S w w') (hS:∀ k,S k → ¬ x.S1 v k∧k ∉ m :: (sb ++ fb)∧x.B ≤ k):TS x c w' v s m sb fb n:=by
  obtain ⟨e,b,hR,h1,h2⟩:=h.rd.rd
  exact ⟨h.cfg,⟨⟨e,b,hR.mod hm (fun k hk hs=>(hS k hs).1 hk) (fun k hk=>(hS k hk).2.2),h1,h2⟩,h.rd.nc,h.rd.tc,h.rd.nb⟩,h.own.mod hm (fun b hb hs=>(hS b hs).2.1 hb) h.own.s1,h.sok,h.nok,h.tcl,h.bnd⟩
theorem TS.below {x:Cx} {c:DC} {w w':World} {v:DV} {s:St} {m:Nat} {sb fb:List Nat} {n:Nat} (h:TS x c w v s m sb fb n) (hb:Below w.heap.size w w'):TS x c w' v s m sb fb n:=
  h.mod (S:=fun _=>False) (mod_none hb _) (fun _ h=>h.elim)
structure Far (x:Cx) (v:DV) (m:Nat) (sb fb:List Nat) (w:World) (k:Nat):Prop where
  lt:k < w.heap.size
  s1:¬ x.S1 v k
  own:k ∉ m :: (sb ++ fb)
theorem Far.step {x:Cx} {v v':DV} {m:Nat} {sb fb sb' fb':List Nat} {w w':World} {k:Nat} (h:Far x v m sb fb w k) (hz:w.heap.size ≤ w'.heap.size) (h1:∀ b ∈ m :: (sb' ++ fb'),b ∈ m :: (sb ++ fb) ∨ w.heap.size ≤ b) (h2:∀ b,x.S1 v' b → x.S1 v b ∨ w.heap.size ≤ b):Far x v' m sb' fb' w' k:=by
  refine ⟨Nat.lt_of_lt_of_le h.lt hz,fun hk=>?_,fun hk=>?_⟩
  · rcases h2 k hk with h9|h9
    · exact h.s1 h9
    · have:=h.lt;omega
  · rcases h1 k hk with h9|h9
    · exact h.own h9
    · have:=h.lt;omega
theorem Far.same {x:Cx} {v:DV} {m:Nat} {sb fb:List Nat} {w w':World} {k:Nat} (h:Far x v m sb fb w k) (hz:w.heap.size ≤ w'.heap.size):Far x v m sb fb w' k:=⟨Nat.lt_of_lt_of_le h.lt hz,h.s1,h.own⟩
theorem TS.new {x:Cx} {c:DC} {w w':World} {v:DV} {s:St} {m:Nat} {sb fb:List Nat} {n:Nat} (h:TS x c w v s m sb fb n) {k:Nat} (h1:w.heap.size ≤ k) (h2:k < w'.heap.size):Far x v m sb fb w' k:=by
  obtain ⟨e,b,hR,_,_⟩:=h.rd.rd
  exact ⟨h2,fun hk=>by have:=hR.s1lt k hk;omega,fun hk=>by have:=h.own.lt k hk;omega⟩
theorem tok_append2 (w3:World) (base:Nat) (hb:base ≤ w3.heap.size) (v:Value) (n:Nat) (hn:n ≤ 1000000000) (xs:List Value) (h:w3.ownsRow base 33 8 v n xs) (kind:Int) (space loc:Bs) (attrs:Value) (ha:attrs.oneCell'=true) (text:Bs) (a l c:Int) :
    ∃ v' w4,(Builtin.append_ #[25,25] 25 #[v,.slice (some ⟨w3.heap.size,0,none⟩) 1 1]).run Tryz.prog (w3.alloc (.cells #[.int .i64 kind,strV space,strV loc,attrs,strV text,.int .i64 a,.int .i64 l,.int .i64 c] 33))=.ok v' w4 ∧
      w4.ownsRow base 33 8 v' (n + 1) (xs ++ tokCells kind space loc attrs text a l c)∧(w3.alloc (.cells #[.int .i64 kind,strV space,strV loc,attrs,strV text,.int .i64 a,.int .i64 l,.int .i64 c] 33)).grownBy w4 v.ownBlock∧(v'.ownBlock=v.ownBlock ∨ v'.ownBlock=some (w3.heap.size + 1)):=by
  obtain ⟨i,hi,hz,h1,h2⟩:=info_parts tokInfo
  obtain ⟨v',w4,hr,ho,hg,_,hown⟩:=run_append_own_at (P:=Tryz.prog) (w3.alloc (.cells #[.int .i64 kind,strV space,strV loc,attrs,strV text,.int .i64 a,.int .i64 l,.int .i64 c] 33)) base 25 25 33 i _ 8 104 Tryz.underlying25 hi hz h1 h2 rfl (by omega) v n xs (h.alloc _) ⟨w3.heap.size,0,none⟩ 1 1 (tokCells kind space loc attrs text a l c) rfl
    (by
      intro j u hj
      have hb:=Blk.new w3 #[.int .i64 kind,strV space,strV loc,attrs,strV text,.int .i64 a,.int .i64 l,.int .i64 c] 33
      rw [show ((⟨w3.heap.size,0,none⟩:Addr).add j)=⟨w3.heap.size,j,none⟩ by cases j <;> simp [Addr.add],hb.cell]
      simpa [tokCells] using hj)
    (by
      intro u hu
      simp only [tokCells,List.mem_cons,List.not_mem_nil,or_false] at hu
      rcases hu with rfl|rfl|rfl|rfl|rfl|rfl|rfl|rfl <;> first|rfl|exact ha)
    (by unfold maxLen;omega) (by omega) (by simp;omega)
  exact ⟨v',w4,hr,ho,hg,by simpa using hown⟩
end Go.Proofs.YtkjnockljapnbaaGreatDoor
namespace Go.Proofs.YtkjnockljapnbaaGreatDoor
open Go Go.RowKit
abbrev optCells (o:Opt):Array Value:=#[.bool o.raw,.bool (!o.strict),.slice none 0 0,.slice none 0 0,strV o.space]
structure TkSt (x:Cx) (c:DC) (w:World) (v:DV) (s:St) (m:Nat) (sb fb:List Nat) (n:Nat) (b0:Nat) (l:List (RTok × St)) (xs:List Value) (tv:Value):Prop where
  ts:TS x c w v s m sb fb n
  opt:Blk w b0 (optCells x.o) 30
  b0f:Far x v m sb fb w b0
  tvb:tv.ownBlock ≠ some b0
  row:w.ownsRow b0 33 8 tv l.length xs
  tvf:∀ k,tv.ownBlock=some k → Far x v m sb fb w k
  rows:RowsAt (RowOk w b0 (fun k=>Far x v m sb fb w k∧tv.ownBlock ≠ some k) x.T) l xs
  run:∀ fold l' e,Toks fold x.o s l' e → Toks fold x.o (St.init x.T) (l ++ l') e
  next:s.next=none
  mu:l.length + s.mu ≤ (St.init x.T).mu
def TkInv (x:Cx) (m:Nat) (b0:Nat) (k:Nat) (a:Act) (w:World):Prop:=
  ∃ f c v s sb fb n l xs tv,a=fr 45 f [(7,.pointer (some ⟨b0,0,none⟩)),(10,decP x),(11,tv)]∧TkSt x c w v s m sb fb n b0 l xs tv∧k=s.mu
def TokensOut (T:Bs) (o:Opt) (w:World) (en:Ending) (w':World):Prop:=
  ∃ l e tv xs,en=.returned (.tuple #[tv,.int .i64 (EK.code e)])∧(∀ fold,Toks fold o (St.init T) l e)∧Below w.heap.size w w'∧w'.ownsRow w.heap.size 33 8 tv l.length xs∧RowsAt (RowOk w' w.heap.size (fun _=>True) T) l xs∧l.length ≤ 8 * T.length
theorem TkSt.step {x:Cx} (hx:x.Ok) (ho:x.o.auto=[]) {c:DC} {w:World} {v:DV} {s:St} {m:Nat} {sb fb:List Nat} {n:Nat} {b0:Nat} {l:List (RTok × St)} {xs:List Value} {tv:Value} (h:TkSt x c w v s m sb fb n b0 l xs tv) {tk:RTok} {s':St} (hstep:step0 x.o s=.ok (tk,s'))
    {c':DC} {w':World} {v':DV} {sb' fb':List Nat} {n':Nat} (hts:TS x c' w' v' s' m sb' fb' n') (hm:Mod (fun b=>x.S1 v b ∨ b ∈ m :: (sb ++ fb)) w w') (h1:∀ b ∈ m :: (sb' ++ fb'),b ∈ m :: (sb ++ fb) ∨ w.heap.size ≤ b) (h2:∀ b,x.S1 v' b → x.S1 v b ∨ w.heap.size ≤ b) :
    Blk w' b0 (optCells x.o) 30∧Far x v' m sb' fb' w' b0∧w'.ownsRow b0 33 8 tv l.length xs∧(∀ k,tv.ownBlock=some k → Far x v' m sb' fb' w' k)∧RowsAt (RowOk w' b0 (fun k=>Far x v' m sb' fb' w' k∧tv.ownBlock ≠ some k) x.T) l xs ∧
      (∀ fold l' e,Toks fold x.o s' l' e → Toks fold x.o (St.init x.T) (l ++ (tk,s') :: l') e)∧s'.next=none∧l.length + 1 + s'.mu ≤ (St.init x.T).mu∧s'.mu < s.mu:=by
  obtain ⟨q1,q2,q3⟩:=step0_ok hstep
  have hnf:∀ k,Far x v m sb fb w k → ¬ (x.S1 v k ∨ k ∈ m :: (sb ++ fb)):=fun k hf hh=>by
    rcases hh with hh|hh
    · exact hf.s1 hh
    · exact hf.own hh
  refine ⟨h.opt.mod hm (hnf _ h.b0f),h.b0f.step hm.size h1 h2,ownsRow_mod h.row hm (fun k hk=>hnf k (h.tvf k hk)),fun k hk=>(h.tvf k hk).step hm.size h1 h2,
    h.rows.mono (fun a ys hr=>hr.mod hm (fun k hk _=>⟨hnf k hk.1,hk.1.step hm.size h1 h2,hk.2⟩)),fun fold l' e ht=>?_,q3.trans h.next,by have:=h.mu;omega,q1⟩
  exact h.run fold _ e (.more (by rw [stepL_nil ho h.next];exact hstep) ht)
theorem TkSt.lay {x:Cx} {c:DC} {v:DV} {s:St} {m:Nat} {sb fb:List Nat} {n:Nat} {b0:Nat} {l:List (RTok × St)} {xs:List Value} {tv:Value} {w2 w3 w4:World} {tk:RTok}
    (hB:x.B ≤ b0) (hts:TS x c w2 v s m sb fb n) (hopt:Blk w2 b0 (optCells x.o) 30) (hbf:Far x v m sb fb w2 b0) (htvb:tv.ownBlock ≠ some b0) (hrow:w2.ownsRow b0 33 8 tv l.length xs) (htvf:∀ k,tv.ownBlock=some k → Far x v m sb fb w2 k)
    (hrows:RowsAt (RowOk w2 b0 (fun k=>Far x v m sb fb w2 k∧tv.ownBlock ≠ some k) x.T) l xs) (hrun:∀ fold l' e,Toks fold x.o s l' e → Toks fold x.o (St.init x.T) (l ++ (tk,s) :: l') e) (hnext:s.next=none) (hmu:l.length + 1 + s.mu ≤ (St.init x.T).mu)
    (hb3:Below w2.heap.size w2 w3) {sa:Option Addr} {sl sc:Nat} {i6 i7:Int} (hat:w3.ownsRow w2.heap.size 61 3 (.slice sa sl sc) (tk.itok (x.T.take (x.T.length - s.rest.length))).attrs.length (atCells (tk.itok (x.T.take (x.T.length - s.rest.length))).attrs))
    {o:Obj} {tv':Value} (hown:w4.ownsRow b0 33 8 tv' (l.length + 1) (xs ++ tokCells (tk.itok (x.T.take (x.T.length - s.rest.length))).kind (tk.itok (x.T.take (x.T.length - s.rest.length))).space (tk.itok (x.T.take (x.T.length - s.rest.length))).loc (.slice sa sl sc) (tk.itok (x.T.take (x.T.length - s.rest.length))).text (tk.itok (x.T.take (x.T.length - s.rest.length))).at' i6 i7))
    (hgr:(w3.alloc o).grownBy w4 tv.ownBlock) (hob:tv'.ownBlock=tv.ownBlock ∨ tv'.ownBlock=some (w3.heap.size + 1)) (hi:i6=((tk.itok (x.T.take (x.T.length - s.rest.length))).line:Nat)∧i7=((tk.itok (x.T.take (x.T.length - s.rest.length))).col:Nat)) :
    TkSt x c w4 v s m sb fb n b0 (l ++ [(tk,s)]) (xs ++ tokCells (tk.itok (x.T.take (x.T.length - s.rest.length))).kind (tk.itok (x.T.take (x.T.length - s.rest.length))).space (tk.itok (x.T.take (x.T.length - s.rest.length))).loc (.slice sa sl sc) (tk.itok (x.T.take (x.T.length - s.rest.length))).text (tk.itok (x.T.take (x.T.length - s.rest.length))).at' i6 i7) tv':=by
  have hm3:Mod (fun _=>False) w2 w3:=mod_none hb3 _
  have hm4:Mod (fun k=>tv.ownBlock=some k) w3 w4:=(mod_none ((Below.refl _ w3).alloc (Nat.le_refl _) o) _).trans (S':=fun k=>tv.ownBlock=some k) ⟨hgr.os,hgr.tape,hgr.output,hgr.size,fun k hk hn=>hgr.block k hk (fun he=>hn he.symm)⟩ (fun i _ hi=>hi)
  have hm24:Mod (fun k=>tv.ownBlock=some k) w2 w4:=(hm3.mono (fun _ _ h=>h.elim)).trans hm4 (fun _ _ h=>h)
  have hz2:=hb3.size
  have hz4:=hm4.size
  have hnz:w3.heap.size + 1 ≤ w4.heap.size:=by have h9:=hgr.size;rw [show (w3.alloc o).heap.size=w3.heap.size + 1 from Array.size_push _] at h9;exact h9
  have htb:∀ k,tv.ownBlock=some k → b0 ≤ k:=fun k hk=>(ownsRow_lt hrow hk).2
  have hts4:=hts.mod hm24 (fun k hk=>⟨(htvf k hk).s1,(htvf k hk).own,Nat.le_trans hB (htb k hk)⟩)
  have htv':∀ k,tv'.ownBlock=some k → k < w4.heap.size:=fun k hk=>(ownsRow_lt hown hk).1
  have hne:∀ k,k < w3.heap.size → tv.ownBlock ≠ some k → tv'.ownBlock ≠ some k:=fun k hk hn he=>by
    rcases hob with hob|hob
    · exact hn (hob ▸ he)
    · rw [hob] at he
      have:w3.heap.size + 1=k:=by simpa using he
      omega
  refine ⟨hts4,hopt.mod hm24 htvb,hbf.same hm24.size,hne b0 (Nat.lt_of_lt_of_le hbf.lt hz2) htvb,by rw [List.length_append];exact hown,fun k hk=>?_,?_,fun fold l' e ht=>?_,hnext,by rw [List.length_append];exact hmu⟩
  · rcases hob with hob|hob
    · exact (htvf k (hob ▸ hk)).same hm24.size
    · have h9:w3.heap.size + 1=k:=by rw [hob] at hk;simpa using hk
      exact hts.new (by omega) (htv' k hk)
  · refine .snoc (hrows.mono (fun a ys hr=>hr.mod hm24 (fun k hk hlt=>⟨hk.2,hk.1.same hm24.size,hne k (Nat.lt_of_lt_of_le hlt hz2) hk.2⟩))) ?_
    have hbk:∀ k,(Value.slice sa sl sc).ownBlock=some k → k < w3.heap.size∧w2.heap.size ≤ k:=fun k hk=>ownsRow_lt hat hk
    have hat0:w3.ownsRow b0 61 3 (.slice sa sl sc) (tk.itok (x.T.take (x.T.length - s.rest.length))).attrs.length (atCells (tk.itok (x.T.take (x.T.length - s.rest.length))).attrs):=by
      refine ⟨hat.1,?_⟩
      rcases hat.2 with h9|⟨g,cap,cur,e1,e2,e3⟩
      · exact Or.inl h9
      · exact Or.inr ⟨g,cap,cur,e1,Nat.le_trans (Nat.le_of_lt hbf.lt) e2,e3⟩
    have hnt:∀ k,(Value.slice sa sl sc).ownBlock=some k → tv.ownBlock ≠ some k:=fun k hk he=>by
      have h8:=(hbk k hk).2
      have h9:=(htvf k he).lt
      omega
    exact ⟨sa,sl,sc,i6,i7,rfl,ownsRow_mod hat0 hm4 (fun k hk he=>hnt k hk he),fun k hk=>⟨hts.new (hbk k hk).2 (Nat.lt_of_lt_of_le (hbk k hk).1 hz4),hne k (hbk k hk).1 (hnt k hk)⟩,hi⟩
  · rw [List.append_assoc];exact hrun fold l' e ht
end Go.Proofs.YtkjnockljapnbaaGreatDoor
namespace Go.Proofs.YtkjnockljapnbaaGreatDoor
open Go Go.RowKit
noncomputable def tsCode (n:Nat):Code:=((Tryz.f9.body).bind (Code.partAt n)).getD .skip
theorem take_pre {T rest:Bs} (h:rest <:+ T):T=T.take (T.length - rest.length) ++ rest:=by
  obtain ⟨p,rfl⟩:=h
  have:(p ++ rest).length - rest.length=p.length:=by rw [List.length_append];omega
  rw [this,List.take_left' rfl]
theorem step0_ats {o:Opt} {s s':St} {nm:Bs × Bs} {ats:List At3} (h:step0 o s=.ok (.start nm ats,s')):ats.length ≤ s.rest.length:=by
  unfold step0 at h
  split at h
  · obtain ⟨_,_,_,_,_,_,h7⟩:=rawL_ok h
    rcases h7 with ⟨_,_,h8,_⟩|⟨_,h8,_⟩
    · cases h8
    · simp only [RTok.wt] at h8;omega
  · unfold tok0 at h
    cases hr:rawL o s with
    | error e=>rw [hr] at h;cases h
    | ok p=>
      obtain ⟨t1,s1⟩:=p
      rw [hr] at h
      obtain ⟨_,_,_,_,_,_,h7⟩:=rawL_ok hr
      have hw:workL o t1 s1=.ok (.start nm ats,s'):=h
      cases t1 with
      | start nm0 ats0=>
        unfold workL at hw
        simp only [Except.ok.injEq,Prod.mk.injEq,RTok.start.injEq] at hw
        obtain ⟨⟨_,rfl⟩,_⟩:=hw
        rcases h7 with ⟨_,_,h8,_⟩|⟨_,h8,_⟩
        · cases h8
        · simp only [RTok.wt] at h8;simp;omega
      | fin nm0=>
        have:=(workL_ok hw).2.2.2.2.1.1 ⟨_,rfl⟩
        obtain ⟨_,h9⟩:=this
        cases h9
      | text d=>unfold workL at hw;simp at hw
      | comment d=>unfold workL at hw;simp at hw
      | dir d=>unfold workL at hw;simp at hw
      | proc a b=>unfold workL at hw;simp at hw
theorem RdS.line_col {x:Cx} {c:DC} {w:World} {v:DV} {rest:Bs} {e:Option EK} {buf:Bs} (hR:RdS x c w v rest e buf) (hnb:v.nb ≠ 10) (tk:RTok) {pre:Bs} (hpre:x.T=pre ++ rest) :
    v.line=((tk.itok pre).line:Nat)∧v.off - v.lstart + 1=((tk.itok pre).col:Nat):=by
  obtain ⟨p,hT,ho,hl,hs,_⟩:=hR.pos
  have hp:p=pre:=List.append_cancel_right (by rw [← hT,← hpre])
  subst hp
  have h1:=hs hnb
  cases tk <;> exact ⟨hl,by show _=((colOf p:Nat):Int);omega⟩
structure TksOut (x:Cx) (m b0:Nat) (s:St) (l:List (RTok × St)) (xs:List Value) (Q:Exit → Act → World → Prop):Prop where
  on:∀ f c w v s' sb fb n l' xs' tv',TkSt x c w v s' m sb fb n b0 l' xs' tv' → s'.mu < s.mu → Q .normal (fr 45 f [(7,.pointer (some ⟨b0,0,none⟩)),(10,decP x),(11,tv')]) w
  err:∀ f w tv k,(∀ fold,Toks fold x.o (St.init x.T) l k) → Below x.B x.W0 w → w.ownsRow b0 33 8 tv l.length xs → RowsAt (RowOk w b0 (fun _=>True) x.T) l xs → Q .ret (fr 45 f [(8,tv),(9,.int .i64 (EK.code k))]) w
theorem tksErr (x:Cx) (hx:x.All) (heb:∃ cs t,Blk x.W0 x.eofA.block cs t) (het:x.W0.cell? ⟨1,0,none⟩=some (rtI 55)) (hetB:1 < x.B)
    (m b0:Nat) (s:St) (l:List (RTok × St)) (xs:List Value) (tv:Value) (k:EK) (hrun:∀ fold,Toks fold x.o (St.init x.T) l k) (w:World) (hrow:w.ownsRow b0 33 8 tv l.length xs) (hrows:RowsAt (RowOk w b0 (fun _=>True) x.T) l xs)
    (t e:Value) (he:ErrV x e (some k)) (hb:Below x.B x.W0 w) (ho:OthAt w e k) (Q:Exit → Act → World → Prop) (hQ:TksOut x m b0 s l xs Q) (f:Nat → Value) :
    (tsCode 8).wp Tryz.prog Q (fr 45 f [(7,.pointer (some ⟨b0,0,none⟩)),(10,decP x),(11,tv),(12,t),(13,e)]) w:=by
  have hco:=Lib.hid (code_c x hx.toOk heb het hetB hb he ho)
  obtain ⟨t1,u1,rfl⟩:=he.iface
  have HQ:=Lib.hid hQ
  have HRUN:=Lib.hid hrun
  have HROW:=Lib.hid hrow
  have HROWS:=Lib.hid hrows
  have HB:=Lib.hid hb
  clear hx heb het hetB hrun hrow hrows he hb ho hQ
  conv=>arg 2;unfold tsCode;whnf
  (repeat (first|(with_reducible first|refine zA fun K hK=>?_|refine zB ?_|refine zC ?_)|((with_reducible first|refine zD rfl fun K hK=>?_|refine zE fun K hK=>?_);go_simp)|(with_reducible first|((repeat ((fail_if_success refine hK _ _ ?_);clear hK K));refine hK _ _ ?_;clear hK K)|refine zT (by go_simp;first|done|omega) ?_|refine zF (by go_simp;first|done|omega) ?_|refine zG ?_|refine zR ?_|refine zK ?_|refine zL ?_|refine zN ?_|refine zS ?_)|simp only [Exit.then,Exit.inBlock,Exit.noGoto,↓reduceIte,Nat.reduceEqDiff]|simp only [undef,reduceCtorEq,↓reduceIte]))
  refine hco.out.mono ?_
  rintro e2 w2 ⟨rfl,hb2⟩
  have HB2:=Lib.hid hb2
  clear hb2 hco
  go_simp
  (repeat (first|(with_reducible first|refine zA fun K hK=>?_|refine zB ?_|refine zC ?_)|((with_reducible first|refine zD rfl fun K hK=>?_|refine zE fun K hK=>?_);go_simp)|(with_reducible first|((repeat ((fail_if_success refine hK _ _ ?_);clear hK K));refine hK _ _ ?_;clear hK K)|refine zT (by go_simp;first|done|omega) ?_|refine zF (by go_simp;first|done|omega) ?_|refine zG ?_|refine zR ?_|refine zK ?_|refine zL ?_|refine zN ?_|refine zS ?_)|simp only [Exit.then,Exit.inBlock,Exit.noGoto,↓reduceIte,Nat.reduceEqDiff]|simp only [undef,reduceCtorEq,↓reduceIte]))
  refine Q_keep [8,9] (fun f=>?_);simp only [keep_cons,keep_nil,lk_cons,lk_nil,Nat.reduceEqDiff,↓reduceIte]
  have hm:Mod (fun _=>False) w w2:=mod_none HB2.out _
  exact HQ.out.err f w2 tv k HRUN.out (HB.out.trans (HB2.out.mono HB.out.size)) (ownsRow_mod HROW.out hm (fun _ _=>id)) (HROWS.out.mono (fun a ys hr=>hr.mod hm (fun k _ _=>⟨id,trivial⟩)))
theorem tksOk (x:Cx) (hx:x.All) (ho:x.o.auto=[]) (hno:x.o.ents=none) (hT:x.T.length ≤ 100000000) (m b0:Nat) (hB:x.B ≤ b0) (c0:DC) (w0:World) (v0:DV) (s:St) (sb0 fb0:List Nat) (n0:Nat) (l:List (RTok × St)) (xs:List Value) (tv:Value) (h:TkSt x c0 w0 v0 s m sb0 fb0 n0 b0 l xs tv)
    (tk:RTok) (s':St) (hstep:step0 x.o s=.ok (tk,s')) (c:DC) (w:World) (v:DV) (sb fb:List Nat) (n:Nat) (hts:TS x c w v s' m sb fb n) (t:Value) (ht:TokAt w v.bufv w0.heap.size t tk) (hm:Mod (fun b=>x.S1 v0 b ∨ b ∈ m :: (sb0 ++ fb0)) w0 w) (h1:∀ b ∈ m :: (sb ++ fb),b ∈ m :: (sb0 ++ fb0) ∨ w0.heap.size ≤ b) (h2:∀ b,x.S1 v b → x.S1 v0 b ∨ w0.heap.size ≤ b) (hle:∀ nm ats,tk=.start nm ats → ats.length ≤ 1000000000)
    (Q:Exit → Act → World → Prop) (hQ:TksOut x m b0 s l xs Q) (f:Nat → Value) :
    (tsCode 8).wp Tryz.prog Q (fr 45 f [(7,.pointer (some ⟨b0,0,none⟩)),(10,decP x),(11,tv),(12,t),(13,.nilIface)]) w:=by
  obtain ⟨a1,a2,a3,a4,a5,a6,a7,a8,a9⟩:=h.step hx.toOk ho hstep hts hm h1 h2
  obtain ⟨e0,bf,hR,_,_⟩:=hts.rd.rd
  have HLC:=Lib.hid (hR.line_col hts.rd.nb tk (take_pre hR.suf))
  have hit:=Lib.hid (itok_c x hx.toOk c w v s'.rest e0 bf hR _ (take_pre hR.suf) w0.heap.size t tk ht hle)
  have hmu0:(St.init x.T).mu=8 * x.T.length:=by unfold St.mu St.init;simp
  have hln:l.length ≤ 1000000000:=by rw [hmu0] at a8;omega
  have HLN:=Lib.hid hln
  have HA:=Lib.hid (And.intro a1 (And.intro a2 (And.intro a3 (And.intro a4 (And.intro a5 (And.intro a6 (And.intro a7 (And.intro a8 a9))))))))
  have HTS:=Lib.hid hts
  have HTV:=Lib.hid h.tvb
  have HQ:=Lib.hid hQ
  have HBL:=Lib.hid hB
  clear hx ho hno hT hB h hstep hts ht hm h1 h2 hle hQ a1 a2 a3 a4 a5 a6 a7 a8 a9 hR hmu0 hln
  obtain ⟨p,hp⟩:∃ p,p=tk.itok (x.T.take (x.T.length - s'.rest.length)):=⟨_,rfl⟩
  rw [← hp] at hit
  have HP:=Lib.hid hp
  clear hp
  conv=>arg 2;unfold tsCode;whnf
  (repeat (first|(with_reducible first|refine zA fun K hK=>?_|refine zB ?_|refine zC ?_)|((with_reducible first|refine zD rfl fun K hK=>?_|refine zE fun K hK=>?_);go_simp)|(with_reducible first|((repeat ((fail_if_success refine hK _ _ ?_);clear hK K));refine hK _ _ ?_;clear hK K)|refine zT (by go_simp;first|done|omega) ?_|refine zF (by go_simp;first|done|omega) ?_|refine zG ?_|refine zR ?_|refine zK ?_|refine zL ?_|refine zN ?_|refine zS ?_)|simp only [Exit.then,Exit.inBlock,Exit.noGoto,↓reduceIte,Nat.reduceEqDiff]|simp only [undef,reduceCtorEq,↓reduceIte]))
  refine hit.out.mono ?_
  rintro e3 w3 ⟨⟨sa,sl,sc,rfl,hat⟩,hb3⟩
  obtain ⟨b1,b2,b3,b4,b5,b6,b7,b8,b9⟩:=HA.out
  obtain ⟨tv',w4,hrun,hown,hgr,hob⟩:=tok_append2 w3 b0 (Nat.le_trans (Nat.le_of_lt b2.lt) hb3.size) tv l.length HLN.out xs (ownsRow_mod (S:=fun _=>False) b3 (mod_none hb3 _) (fun _ _=>id)) p.kind p.space p.loc (.slice sa sl sc) rfl p.text p.at' v.line (v.off - v.lstart + 1)
  have HAT:=Lib.hid hat
  have HB3:=Lib.hid hb3
  have HOWN:=Lib.hid hown
  have HGR:=Lib.hid hgr
  have HOB:=Lib.hid hob
  clear hit hat hb3 hown hgr hob b1 b2 b3 b4 b5 b6 b7 b8 b9
  go_simp
  (repeat ((fail_if_success at_builtin);(first|(with_reducible first|refine zA fun K hK=>?_|refine zB ?_|refine zC ?_)|((with_reducible first|refine zD rfl fun K hK=>?_|refine zE fun K hK=>?_);go_simp)|(with_reducible first|((repeat ((fail_if_success refine hK _ _ ?_);clear hK K));refine hK _ _ ?_;clear hK K)|refine zT (by go_simp;first|done|omega) ?_|refine zF (by go_simp;first|done|omega) ?_|refine zG ?_|refine zR ?_|refine zK ?_|refine zL ?_|refine zN ?_|refine zS ?_)|simp only [Exit.then,Exit.inBlock,Exit.noGoto,↓reduceIte,Nat.reduceEqDiff]|simp only [undef,reduceCtorEq,↓reduceIte])))
  refine wpList_app rfl (.tmp 39) (.tmp 43) _ _ rfl _ _ _ (by rw [fr_eval (by decide)];(try simp only [keep_cons,keep_nil,lk_cons,lk_nil,Nat.reduceEqDiff,↓reduceIte]);(try rfl)) (by rw [fr_eval (by decide)];(try simp only [keep_cons,keep_nil,lk_cons,lk_nil,Nat.reduceEqDiff,↓reduceIte]);(try rfl)) hrun ?_
  clear hrun
  rw [fr_put (by decide)]
  (repeat (first|(with_reducible first|refine zA fun K hK=>?_|refine zB ?_|refine zC ?_)|((with_reducible first|refine zD rfl fun K hK=>?_|refine zE fun K hK=>?_);go_simp)|(with_reducible first|((repeat ((fail_if_success refine hK _ _ ?_);clear hK K));refine hK _ _ ?_;clear hK K)|refine zT (by go_simp;first|done|omega) ?_|refine zF (by go_simp;first|done|omega) ?_|refine zG ?_|refine zR ?_|refine zK ?_|refine zL ?_|refine zN ?_|refine zS ?_)|simp only [Exit.then,Exit.inBlock,Exit.noGoto,↓reduceIte,Nat.reduceEqDiff]|simp only [undef,reduceCtorEq,↓reduceIte]))
  refine Q_keep [7,10,11] (fun f=>?_);simp only [keep_cons,keep_nil,lk_cons,lk_nil,Nat.reduceEqDiff,↓reduceIte]
  obtain ⟨b1,b2,b3,b4,b5,b6,b7,b8,b9⟩:=HA.out
  have hp:=HP.out
  subst hp
  exact HQ.out.on f c w4 v s' sb fb n _ _ tv' (TkSt.lay HBL.out HTS.out b1 b2 HTV.out b3 b4 b5 b6 b7 b8 HB3.out HAT.out HOWN.out HGR.out HOB.out HLC.out) b9
end Go.Proofs.YtkjnockljapnbaaGreatDoor
