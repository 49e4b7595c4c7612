/- a list of a drawn region's operations, taken one behind the other -/
import Derived.Test.YtjenhelmpcajfaaGreatDoorA00
import Derived.Deep.RegionHeld3
set_option linter.all false
namespace Go.Proofs.YtjenhelmpcajfaaGreatDoor
class Hd (l:List Oper) (i:Nat) (o:outParam Oper):Prop where
 eq:l[i]?=some o
instance (o:Oper) (l:List Oper):Hd (o::l) 0 o:=⟨rfl⟩
instance (x:Oper) (l:List Oper) (i:Nat) (o:Oper) [h:Hd l i o]:Hd (x::l) (i+1) o:=⟨by simpa using h.eq⟩
structure Tk (is:List Nat) (p:Prop):Prop where
 out:p
structure Bx (p:Prop):Prop where
 out:p
theorem tkE {p:Prop} (h:Bx p):Tk [] p:=⟨h.out⟩
section
variable {P:Program} {md:Region.Mode} {l:List Oper} {Q:Exit→Act→World→Prop} {S:World→Prop} {is:List Nat} {i:Nat} {oi:Oper} {fuel:Nat} {listed:Array Bool} {a:Act} {w:World} {v:Value}
theorem tk [hi:Hd l i oi] (h:Tk is (wpAnyH P md l.toArray Q S fuel (listed.setIfInBounds i true) (a.put oi.dst v) w))
 (hw:Region.wanted oi (yielded l.toArray a.tmps)=true:=by rfl)
 (hr:(Region.ready md l.toArray listed).contains i=true:=by kernel_rfl) (hf:Region.free md l.toArray listed i=true:=by kernel_rfl) (hs:Region.noSelect l.toArray=true:=by kernel_rfl)
 (hQ:∀c a w,Q (.panic c) (a.put oi.dst v) w→Q (.panic c) a w:=by exact fun _ _ _ h=>h) (hS:S w:=by assumption)
 (hy:∀w,S w→(execOp a.eval oi).run P w= .ok (.value v) w:=by intro w hSw;(try dsimp only at hSw);(go_simp<;>with_reducible rfl)):Tk (i::is) (wpAnyH P md l.toArray Q S (fuel+1) listed a w):=
 ⟨wpAnyH_take (by simpa using hi.eq) hs hf hr hQ (.inl ⟨hw,hy⟩) hS h.out⟩
theorem tn [hi:Hd l i oi] (h:Tk is (wpAnyH P md l.toArray Q S fuel (listed.setIfInBounds i true) (a.put oi.dst undef) w))
 (hw:Region.wanted oi (yielded l.toArray a.tmps)=false:=by rfl)
 (hr:(Region.ready md l.toArray listed).contains i=true:=by kernel_rfl) (hf:Region.free md l.toArray listed i=true:=by kernel_rfl) (hs:Region.noSelect l.toArray=true:=by kernel_rfl)
 (hQ:∀c a w,Q (.panic c) (a.put oi.dst undef) w→Q (.panic c) a w:=by exact fun _ _ _ h=>h) (hS:S w:=by assumption):Tk (i::is) (wpAnyH P md l.toArray Q S (fuel+1) listed a w):=
 ⟨wpAnyH_take (by simpa using hi.eq) hs hf hr hQ (.inr ⟨hw,rfl⟩) hS h.out⟩
theorem sN (i:Nat) [hi:Hd l i oi] (v:Value) (hy:∀w,S w→(execOp a.eval oi).run P w= .ok (.value v) w) (h:wpAnyH P md l.toArray Q S fuel (listed.setIfInBounds i true) (a.put oi.dst v) w)
 (hw:Region.wanted oi (yielded l.toArray a.tmps)=true:=by rfl)
 (hr:(Region.ready md l.toArray listed).contains i=true:=by kernel_rfl) (hf:Region.free md l.toArray listed i=true:=by kernel_rfl) (hs:Region.noSelect l.toArray=true:=by kernel_rfl)
 (hQ:∀c a w,Q (.panic c) (a.put oi.dst v) w→Q (.panic c) a w:=by exact fun _ _ _ h=>h) (hS:S w:=by assumption):wpAnyH P md l.toArray Q S (fuel+1) listed a w:=
 wpAnyH_take (by simpa using hi.eq) hs hf hr hQ (.inl ⟨hw,hy⟩) hS h
theorem Pd (i:Nat) [hi:Hd l i oi] (h:wpAnyH P md l.toArray Q S fuel (listed.setIfInBounds i true) (a.put oi.dst v) w)
 (hr:(Region.ready md l.toArray listed).contains i=true:=by decide+kernel) (hf:Region.free md l.toArray listed i=true:=by decide+kernel)
 (hw:Region.wanted oi (yielded l.toArray a.tmps)=true:=by rfl) (hs:Region.noSelect l.toArray=true:=by kernel_rfl)
 (hQ:∀c a w,Q (.panic c) (a.put oi.dst v) w→Q (.panic c) a w:=by exact fun _ _ _ h=>h) (hS:S w:=by assumption)
 (hy:∀w,S w→(execOp a.eval oi).run P w= .ok (.value v) w:=by intro w hSw;(try dsimp only at hSw);(go_simp<;>with_reducible rfl)):wpAnyH P md l.toArray Q S (fuel+1) listed a w:=
 wpAnyH_take (by simpa using hi.eq) hs hf hr hQ (.inl ⟨hw,hy⟩) hS h
theorem ik (is:List Nat) {p q:Prop} (hq:q) (h:Bx q→Tk is p:=by intro h0;(repeat(first|refine tk ?_|refine tn ?_|fail);(try simp only [Act.put,aA,aB,aC]));exact tkE h0):p:=(h ⟨hq⟩).out
theorem eO (rs:List Nat) (h:AllReadyH P md l.toArray Q S fuel listed a w rs) (hr:Region.ready md l.toArray listed=rs:=by decide+kernel) (hn:rs≠[]:=by simp):wpAnyH P md l.toArray Q S (fuel+1) listed a w:=wpAnyH_ready hr hn h
theorem U9 (rs:List Nat) (h:AllReadyH P md l.toArray Q S fuel listed a w rs) (hr:Region.ready md l.toArray listed=rs:=by kernel_rfl) (hn:rs≠[]:=by simp):wpAnyH P md l.toArray Q S (fuel+1) listed a w:=wpAnyH_ready hr hn h
theorem N7 (h:Q .normal a w) (hr:Region.ready md l.toArray listed=[]:=by decide+kernel):wpAnyH P md l.toArray Q S fuel listed a w:=wpAnyH_done hr h _
theorem ve (h:Q .normal a w) (hr:Region.ready md l.toArray listed=[]:=by kernel_rfl):wpAnyH P md l.toArray Q S fuel listed a w:=wpAnyH_done hr h _
theorem iL {rs:List Nat} [ho:Hd l i oi]
 (h:∀K':Act→World→Prop,Shut (∀a w,S w→(S w→wpAnyH P md l.toArray Q S fuel (listed.setIfInBounds i true) a w)→K' a w)→if Region.wanted oi (yielded l.toArray a.tmps)=true then Oper.wp P oi a w K' Q else K' (a.put oi.dst undef) w)
 (hs:AllReadyH P md l.toArray Q S fuel listed a w rs):AllReadyH P md l.toArray Q S fuel listed a w (i::rs):=.cons (by simpa using ho.eq) h hs
theorem kq (i:Nat) [ho:Hd l i oi]
 (h:∀K':Act→World→Prop,Shut (∀a w,S w→(S w→wpAnyH P md l.toArray Q S fuel (listed.setIfInBounds i true) a w)→K' a w)→if Region.wanted oi (yielded l.toArray a.tmps)=true then Oper.wp P oi a w K' Q else K' (a.put oi.dst undef) w)
 (hr:Region.ready md l.toArray listed= [i]:=by kernel_rfl):wpAnyH P md l.toArray Q S (fuel+1) listed a w:=U9 [i] (iL h .nil) hr
end
end Go.Proofs.YtjenhelmpcajfaaGreatDoor
