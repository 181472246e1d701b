/- Part of the proof that laws.FnSkip returns true for every argument. No conditions. -/
import Derived.Test.YthapcchcahnfaaaGreatDoorS36
set_option linter.all false
set_option maxHeartbeats 8000000
set_option maxRecDepth 100000
namespace Go.Proofs.YthapcchcahnfaaaGreatDoor
open Go Go.RowKit
def U1 (r:Except SV (aP×gN)):Except SV (List aP×gN):=match r with
 | .error e=>.error e
 | .ok (t,s)=>.ok ([t],s)
def PS (x:PX) (a:Nat):Prop:=∀ (w:World) (c:PC) (opens:List Bs) (bound:List aM) (out:List bS),dK x a w c opens bound out→out.length≤500000000→opens.length≤500000000→bound.length=opens.length→c.at'≤x.T.length→∀ nm:Bs×Bs,nm.1.length≤1000000000→nm.2.length≤1000000000 →
 Calls Tryz.prog 51 #[iU x,aB nm.1,aB nm.2] w (fU x a out w (U1 (eJ x.raw x.space ⟨x.T.drop c.at',opens,bound⟩ nm)))
def TU (x:PX) (b:Nat):Prop:=∀ (w:World) (c:PC) (opens:List Bs) (bound:List aM) (out:List bS),dK x b w c opens bound out→out.length≤499999999→opens.length≤499999999→bound.length=opens.length→c.at'≤x.T.length→∀ nm:Bs×Bs,nm.1.length≤1000000000→nm.2.length≤1000000000 →
 ∀ (a:List cO) (d:Option Addr) (f e:Nat),a.length≤1000000000→w.ownsRow b 68 3 (.slice d f e) a.length (aN a)→(∀ k,(Value.slice d f e).ownBlock=some k→¬ fS x c k)→∀ (em:Bool) (o:lR),o.raw=x.raw→o.space=x.space →
 Calls Tryz.prog 60 #[iU x,PG ((aP.start nm a).itok []) d f e 0,.bool em] w (fU x b out w (kE o ⟨x.T.drop c.at',opens,bound⟩ (.start nm a) em))
theorem fU.snoc {x:PX} {b:Nat} {out:List bS} {w i:World} {t f:aP} {d:gN} {e:Ending} {w':World} {a:Nat} (p:Below b w i) (r:a≤x.T.length) (q:d.rest=x.T.drop a) (h:fU x b (out++[{ t.itok [] with at':=a }]) i (.ok ([f],d)) e w'):fU x b out w (.ok ([t,f],d)) e w':=by
 obtain ⟨l,m,c,n,o,g⟩:=h;refine ⟨p.trans l,m,c,?_,o,g⟩;have k:c.at'=a:=by
  have:=congrArg List.length (g.symm.trans q);rw [eC,eC] at this;omega
 have j:out++List.map (fun t=>{ t.itok [] with at':=c.at' }) [t,f]=(out++[{ t.itok [] with at':=a }])++List.map (fun t=>{ t.itok [] with at':=c.at' }) [f]:=by
  simp [k]
 show dK x b w' c d.opens d.bound (out++List.map (fun t=>{ t.itok [] with at':=c.at' }) [t,f]);rw [j];exact n
end Go.Proofs.YthapcchcahnfaaaGreatDoor
