/- Part of the proof that laws.FnStrictIsLoose, laws.FnUnclosed, laws.FnReaderFails, laws.FnWithin, laws.FnSkip returns true for every argument. No conditions. -/
import Derived.Test.YthapcchcahnfaaaGreatDoorP33
import Derived.Test.YthapcchcahnfaaaGreatDoorP44
import Derived.Stop.LaidTwo
import Derived.Lib.LaidTab
import Derived.Lib.LaidCase
import Derived.PinnedBridge
import Derived.ChangeSame
set_option linter.all false
set_option maxHeartbeats 8000000
set_option maxRecDepth 100000
namespace Go.Proofs.YthapcchcahnfaaaGreatDoor
open Go Go.RowKit Go.Proofs.Tryz
theorem OF {o:cM} {s k:St} {nm:Bs×Bs} {f:List cZ} (h:s6 o s=.ok (.start nm f,k)):f.length≤s.rest.length:=by
 unfold s6 at h;split at h
 ·obtain ⟨_,_,_,_,_,_,i⟩:=iB h;rcases i with ⟨_,_,g,_⟩|⟨_,g,_⟩
  ·cases g
  ·simp only [aO.wt] at g;omega
 ·unfold OY at h;cases j:dN o s with
  | error e=>rw [j] at h;cases h
  | ok p=>
   obtain ⟨l,n⟩:=p;rw [j] at h;obtain ⟨_,_,_,_,_,_,i⟩:=iB j;have c:bW o l n=.ok (.start nm f,k):=h;cases l with
   | start nm0 ats0=>
    unfold bW at c;simp only [bT,bR,aO.start.injEq] at c;obtain ⟨⟨_,rfl⟩,_⟩:=c;rcases i with ⟨_,_,g,_⟩|⟨_,g,_⟩
    ·cases g
    ·simp only [aO.wt] at g;simp;omega
   | fin nm0=>
    have:=(l5 c).2.2.2.2.1.1 ⟨_,rfl⟩;obtain ⟨_,m⟩:=this;cases m
   | text d=>unfold bW at c;simp at c
   | comment d=>unfold bW at c;simp at c
   | dir d=>unfold bW at c;simp at c
   | proc a b=>unfold bW at c;simp at c
theorem vD {fold:Bs→Bs→Bool} {o:cM} (j:o.auto=[]) {s:St} {l:List (aO×St)} {e:EK} (h:eD fold o s l e):s.next=none→∀ b∈l,∀ pre,(b.1.itok pre).attrs.length≤s.rest.length:=by
 induction h with
 | stop _=>intro _ b a;cases a
 | more i _ ih=>
  intro d b a pre;rename_i n g c r p q;have f:s6 o n=.ok (g,c):=by rw [←sB (fold:=fold) j d];exact i
  obtain ⟨_,k,m⟩:=O0 f;rcases mH.1 a with rfl|a
  ·cases g with
   | start nm ats=>exact OF f
   | _=>exact iW _
  ·exact fX (ih (m.trans d) b a pre) k.length_le
theorem F1.below {w w':World} {a:Option Addr} {c b:Nat} {d:List Int} (h:F1 w a c b d) (f:Below w.heap.size w w'):F1 w' a c b d:=by
 refine ⟨h.n,h.l,fun n=>?_⟩;obtain ⟨g,i,k,e,l⟩:=h.at' n;exact ⟨g,i,k,oX e f.size,fun j m=>by rw [f.cell (p:=⟨g,i+j,none⟩) e];exact l j m⟩
structure qO (T:Bs) (w:World) (b:Value) (l:List (aO×St)) (a:List Value):Prop where
 row:∃ base,w.ownsRow base 38 8 b l.length a
 rows:∃ base,cI (nN w base (fun _=>True) T) l a
theorem qO.below {T:Bs} {w w':World} {c:Value} {l:List (aO×St)} {d:List Value} (h:qO T w c l d) (b:Below w.heap.size w w'):qO T w' c l d:=by
 obtain ⟨b1,f⟩:=h.row;obtain ⟨e,g⟩:=h.rows;exact ⟨⟨b1,aE (S:=fun _=>False) f (aG b _) (fun _ _=>id)⟩,⟨e,g.mono (fun a j i=>i.mod (aG b (fun _=>False)) (fun _ _ _=>⟨id,trivial⟩))⟩⟩
def fE (T:Bs) (l:List (aO×St)):List cD:=l.map fun a=>a.1.itok (T.take (T.length-a.2.rest.length))
structure Eh (w:World) (L:List cD) (out:Value):Prop where
 ex:∃ base a b,w.ownsRow base 35 6 out L.length b∧cI (kC w a (fun _=>True)) L b
theorem CI (T:Bs) (w:World) (v:Value) (l:List (aO×St)) (G:List Value) (h:qO T w v l G) (t:l.length≤1000000000) (o:∀ p∈fE T l,p.attrs.length≤1000000000) :
  Calls prog 11 #[v] w fun n w'=>∃ out,n=.returned out∧Below w.heap.size w w'∧Eh w' (fE T l) out:=by
 obtain ⟨b,u⟩:=h.row;obtain ⟨I,d⟩:=h.rows;have j:(fE T l).length=l.length:=by simp [fE]
 rcases u.2 with ⟨rfl,x⟩|⟨g,cap,cur,rfl,L,A,M,B,E,F⟩
 ·have D:l=[]:=tZ x;subst D;refine (N0 w).mono ?_;rintro n w' ⟨rfl,rfl⟩;exact ⟨_,rfl,Below.refl _ _,⟨⟨0,0,[],⟨rfl,aH ⟨rfl,rfl⟩⟩,.nil⟩⟩⟩
 ·have q:aJ w g cur 38:=A;have a:=LN w (fE T l) (by omega) g 0 cap q.lt (fun i p a=>by
   have C:∃ e,l[i]?=some e∧e.1.itok (T.take (T.length-e.2.rest.length))=p:=by
    unfold fE at a;rw [List.getElem?_map] at a;cases f:l[i]? with
    | none=>rw [f] at a;cases a
    | some e=>rw [f] at a;exact ⟨e,rfl,by simpa using a⟩
   obtain ⟨e,m,rfl⟩:=C;have k:0<l.length:=Nat.lt_of_le_of_lt (iW _) (A1.1 m).1;obtain ⟨J,r,s,_,_,_,_,c⟩:=eW u k;simp only [Value.slice.injEq,kD,Addr.mk.injEq] at s;obtain ⟨⟨rfl,_⟩,_⟩:=s;rw [Nat.zero_add];exact qG d c m (o _ (List.mem_of_getElem? a)))
  rw [j] at a;refine a.mono ?_;rintro n w' ⟨out,H,rfl,m,y,z⟩;exact ⟨out,rfl,m,⟨⟨_,_,_,by rw [j];exact y,z⟩⟩⟩
theorem J6 (T:Bs) (l:List (aO×St)):(fE T l).length=l.length:=by simp [fE]
end Go.Proofs.YthapcchcahnfaaaGreatDoor
namespace Go.Proofs.YthapcchcahnfaaaGreatDoor
open Go Go.RowKit Go.ChangeShapes Go.WideShapes Go.ChangeAt Go.Shelf Go.Proofs.Tryz
theorem W5:((dX.filter fun x=>x.2.handleName?.isNone).filter fun x=>x.1 == "unicode.asciiFold")=[("unicode.asciiFold", Rows.laid_unicode_asciiFold)]:=by kernel_rfl
theorem Ai:(Rows.laid_unicode_asciiFold:DataW Unit)=Lib.tabData .u16 Bc:=by kernel_rfl
theorem W6:((dX.filter fun x=>x.2.handleName?.isNone).filter fun x=>x.1 == "strconv.ErrSyntax" || x.1 == "io.EOF")=[("strconv.ErrSyntax", Rows.laid_strconv_ErrSyntax),("io.EOF", Rows.laid_io_EOF)]:=by kernel_rfl
theorem W7:(dX.filter fun x=>x.2.handleName?.isSome)=[("errors.errorType", Rows.laid_errors_errorType)]:=by kernel_rfl
theorem J7:((List.range prog.types.size).all fun ty=>!(prog.rowNamed ty [101,114,114,111,114])||ty==59)=true:=by kernel_rfl
theorem Aj:(prog.cutTypes.find? (·.1 == "internal/reflectlite.rtype")).map (·.2)=some 202:=by kernel_rfl
theorem SZ:(Rows.laid_errors_errorType:DataW Unit).handleName?=some [101,114,114,111,114]:=by kernel_rfl
theorem W8:typeHandle prog 59=.pointer (some ⟨16,59,none⟩):=by kernel_rfl
theorem vF {w:World} (h:laidMetH prog dX w):oQ w:=by
 have E:=GY h;obtain ⟨s,F⟩:=laidMetH_iff.1 h
 have q:=s.filter fun x=>x.1 == "unicode.asciiFold"
 rw [W5,Ai] at q
 have r:=s.filter fun x=>x.1 == "strconv.ErrSyntax" || x.1 == "io.EOF"
 rw [W6] at r;have G:=Lib.tabIs_of_head (g:=3) (t:=225) (e:=224) (n:=128) (by kernel_rfl) (by kernel_rfl) underlying225 underlying224 (by kernel_rfl) (by kernel_rfl) q;have d:Bc.length=128:=by simp [Bc]
 have b:=fun i (o:i<Bc.length)=>G.cell (g:=3) (by kernel_rfl) i o;have j:3<w.heap.size:=World.block_lt_of_cell? w _ (b 0 (by rw [d];omega));obtain ⟨M,z,N,O,c0,A,P,J,v0,L,_,_,_,_,_,_,_,b0,b1⟩:=laid_sentinels2 (g0:=8) (g1:=0) r (by kernel_rfl) (by kernel_rfl) (by kernel_rfl) (by kernel_rfl) underlying59 SY underlying196 underlying198 rfl rfl underlying9 (by kernel_rfl) (by kernel_rfl);have H:w.cell? ⟨0,0,none⟩=some (nJ z):=by simpa using World.var?_cell (g:=0) (by kernel_rfl) L 0
 have f:w.cell? ⟨1,0,none⟩=some (DZ 59):=by
  have I:=F ("errors.errorType", Rows.laid_errors_errorType) (by rw [W7];simp)
  have p:∃ c u ty,(Rows.laid_errors_errorType:DataW Unit).handleName?=some c∧(prog.cutTypes.find? (·.1 == "internal/reflectlite.rtype")).map (·.2)=some u∧ty<prog.types.size∧prog.rowNamed ty c=true ∧
   w.var? prog "errors.errorType" = some #[.iface u (.agg #[typeHandle prog ty])]:=I
  obtain ⟨c,u,ty,k,l,B,C,v⟩:=p;rw [SZ] at k;rw [Aj] at l;simp only [kD] at k l;subst k l;have y:=List.all_eq_true.1 J7 ty (List.mem_range.2 B);rw [C] at y;have D:ty=59:=by simpa using y
  subst D;rw [W8] at v;simpa using World.var?_cell (g:=1) (by kernel_rfl) v 0
 refine ⟨E,⟨fun i o=>b i (by rw [d];exact o),j⟩,j,?_,?_,fun a m=>?_⟩
 ·exact f
 ·exact World.block_lt_of_cell? w _ f
 ·rw [H] at m;simp only [kD,Value.iface.injEq,Value.pointer.injEq,true_and] at m;subst m;exact ⟨A,J,b1⟩
end Go.Proofs.YthapcchcahnfaaaGreatDoor
