/- the answer's plain law -/
import Derived.Test.YtjenhelmpcajfaaGreatDoorA40
import Derived.Test.YtjenhelmpcajfaaGreatDoorA39
set_option linter.all false
set_option maxRecDepth 100000
namespace Go.Proofs.YtjenhelmpcajfaaGreatDoor
open Go.RowKit
structure Gq (F:Nat->Prop) (w:World) (iv pv dv ov gv qv tv:Value) (ls:List LD) (ns os:List Nd) (ig rq ins:List aa) (pks:List Pk):Prop where
 i:bK F w iv ins
 p:Rd E0 F w pv ls
 d:Rd Dp F w dv ns
 o:Rd Dp F w ov os
 g:bK F w gv ig
 q:bK F w qv rq
 t:Rd pU F w tv pks
 gl:Gl w
theorem Gq.pure {F:Nat->Prop} {w w':World} {iv pv dv ov gv qv tv:Value} {ls:List LD} {ns os:List Nd} {ig rq ins:List aa} {pks:List Pk} (h:Gq F w iv pv dv ov gv qv tv ls ns os ig rq ins pks) (hb:Below w.heap.size w w'):Gq F w' iv pv dv ov gv qv tv ls ns os ig rq ins pks:=
 ⟨h.i.pure hb,h.p.pure hb,h.d.pure hb,h.o.pure hb,h.g.pure hb,h.q.pure hb,h.t.pure hb,h.gl.pure hb⟩
structure NT (F:Nat->Prop) (w:World) (root:aa) (ls:List LD) (ns os:List Nd) (ig rq ins:List aa) (pks:List Pk):Prop where
 nd:(pks.map (·.path)).Nodup
 px:∀q∈pks,q.path.size<=1000000/\(∀x∈q.imps++q.tests,x.size<=1000000)/\q.imps.length+q.tests.length<=1000
 rt:root.size<=1000000
 pl:pks.length<=100
 ns:fJ ns
 os:fJ os
 lo:∀l∈ls,l.Ok/\l.lp.g.Lk/\l.lp.g.Ok
 ln:ls.length<=1000
 i1:ins.length<=1000
 i2:∀x∈ins,x.size<=1000000
 r1:rq.length<=1000
 r2:∀x∈rq,x.size<=1000000
 g1:ig.length<=8
 g2:∀x∈ig,x.size<=1000000/\mB x
 fl:∀b,F b->b<w.heap.size
def Gr (F:Nat->Prop) (nn:Bool) (root:aa) (ig:List aa) (pks:List Pk) (rq ins:List aa) (ns os:List Nd) (lps:List iK) (w:World) (e:Ending) (w':World):Prop:=
 ∃(v1 v2 v3 v4:Value) (M E UC UO:List aa) (sat:Bool),e= .returned (.agg #[.bool (!nn),v1,v2,v3,v4, .bool sat])/\bK F w' v1 M/\bK F w' v2 E/\bK F w' v3 UC/\bK F w' v4 UO/\Below w.heap.size w w'/\
  (nn=true->M= []/\E= []/\UC= []/\UO= []/\sat=false)/\(nn=false->sat=decide (M= []/\E= []/\UC= []/\UO= [])/\UC.Pairwise iC/\UO.Pairwise iC/\(bg root ig pks->yu root ig pks rq ins ns os lps M E UC UO))
open Go.Proofs.Tryz
def sL (F:Nat->Prop) (nn:Bool) (lps:List iK) (ins:List aa) (w:World) (lv:Value):Prop:=(nn=true/\lv= .nilIface)\/(nn=false/\kL F w lv lps ins)
theorem sL.no {F:Nat->Prop} {lps:List iK} {ins:List aa} {w:World}:sL F true lps ins w .nilIface:= .inl ⟨rfl,rfl⟩
theorem sL.yes {F:Nat->Prop} {lps:List iK} {ins:List aa} {w:World} {v:Value} (h:kL F w v lps ins):sL F false lps ins w v:= .inr ⟨rfl,h⟩
theorem sL.pure {F:Nat->Prop} {nn:Bool} {lps:List iK} {ins:List aa} {w w':World} {v:Value} (h:sL F nn lps ins w v) (hb:Below w.heap.size w w'):sL F nn lps ins w' v:=h.imp id fun h=>⟨h.1,h.2.pure hb⟩
structure yS (F:Nat->Prop) (nn:Bool) (root:aa) (ig:List aa) (pks:List Pk) (rq ins:List aa) (ns os:List Nd) (lps:List iK) (W:World) (v1 v2:Value) (m1 m2:Option Nat) (M E:List aa) (LC LO:List (aa × (Value × Value))):Prop where
 r1:bK F W v1 M
 r2:bK F W v2 E
 yes:nn=false->∃mc mo,m1=some mc/\m2=some mo/\ah tQ W mc LC/\ah tQ W mo LO
 no:nn=true->v1= .slice none 0 0/\v2= .slice none 0 0/\m1=none/\m2=none/\M= []/\E= []/\LC= []/\LO= []
 len:M.length<=1000000/\E.length<=1000000/\LC.length<=1000000/\LO.length<=1000000
 sat:nn=false->bg root ig pks->yu root ig pks rq ins ns os lps M E (af LC) (af LO)
section
variable {F:Nat->Prop} {nn:Bool} {root:aa} {ig:List aa} {pks:List Pk} {rq ins:List aa} {ns os:List Nd} {lps:List iK} {W:World} {v1 v2:Value} {m1 m2:Option Nat} {M E:List aa} {LC LO:List (aa × (Value × Value))}
theorem yS.pure {W':World} (h:yS F nn root ig pks rq ins ns os lps W v1 v2 m1 m2 M E LC LO) (hb:Below W.heap.size W W'):yS F nn root ig pks rq ins ns os lps W' v1 v2 m1 m2 M E LC LO:=
 ⟨h.r1.pure hb,h.r2.pure hb,fun hn=>by obtain ⟨a,b,c,d,e,f⟩:=h.yes hn;exact ⟨a,b,c,d,e.pure hb,f.pure hb⟩,h.no,h.len,h.sat⟩
def Y1 (F:Nat->Prop) (nn:Bool) (root:aa) (ig:List aa) (pks:List Pk) (rq ins:List aa) (ns os:List Nd) (lps:List iK) (w:World) (e:Ending) (w':World):Prop:=
 ∃ex A1 n1 c1 A2 n2 c2 m1 m2 M E LC LO,Hid (ex= !nn)/\e= .returned (.agg #[.bool ex, .slice A1 n1 c1, .slice A2 n2 c2, .map m1, .map m2])/\yS F nn root ig pks rq ins ns os lps w' (.slice A1 n1 c1) (.slice A2 n2 c2) m1 m2 M E LC LO/\Below w.heap.size w w'
theorem Y9 (pm ib lo a b d:Nat) (PL:List (aa × fe)) (La Lb:List (aa × (aa × Value))) (Lr:List (aa × Bool)) (lv:Value) (w:World) (hL:sL F nn lps ins w lv) (hIn:kL F w lv lps ins->Gj F w root pm ib lo a b d PL pks ig rq ins lps ns os La Lb Lr lv) (pD:NJ F w root pks ig rq ins lps ns os):
 Calls Tryz.prog 34 #[lv, .iface 179 (.agg #[.map (some a), .map (some b), .pointer (some ⟨ib,0,none⟩), .map (some d)]), .agg #[.string root, .map (some pm)]] w (Y1 F nn root ig pks rq ins ns os lps w):=by
 rcases hL with ⟨rfl,rfl⟩|⟨rfl,h⟩
 · exact (YN root pm a b ib d w).mono fun e w' ⟨he,hB⟩=>⟨false,none,0,0,none,0,0,none,none, [], [], [], [],Y0 rfl,he,⟨Rd.nil _ _ _ _ _ (Nat.zero_le _),Rd.nil _ _ _ _ _ (Nat.zero_le _),fun h=>(by cases h),fun _=>⟨rfl,rfl,rfl,rfl,rfl,rfl,rfl,rfl⟩,by simp,fun h=>(by cases h)⟩,hB⟩
 exact (f34 root pm ib lo a b d PL pks ig rq ins lps ns os La Lb Lr lv w (hIn h) pD).mono fun e w' ⟨A1,A2,c1,c2,mc,mo,M,E,LC,LO,he,h1,h2,h3,h4,h5,h6,h7⟩=>⟨true,A1,_,c1,A2,_,c2,some mc,some mo,M,E,LC,LO,Y0 rfl,he,⟨h1,h2,fun _=>⟨mc,mo,rfl,rfl,h3,h4⟩,fun h=>(by cases h),h6,fun _=>h7⟩,h5⟩
def Za (b:Bool) (w:World) (e:Ending) (w':World):Prop:=∃sat:Bool,e= .returned (.bool sat)/\Hid (sat=b)/\Below w.heap.size w w'
theorem Zb {ex:Bool} (hx:Hid (ex= !nn)) (h:yS F nn root ig pks rq ins ns os lps W v1 v2 m1 m2 M E LC LO):Calls Tryz.prog 40 #[.agg #[.bool ex,v1,v2, .map m1, .map m2]] W (Za (decide (nn=false/\M= []/\E= []/\LC= []/\LO= [])) W):=by
 have hx':=hx.out;subst hx';cases nn
 · obtain ⟨mc,mo,rfl,rfl,h3,h4⟩:=h.yes rfl;obtain ⟨A1,c1,rfl⟩:=h.r1.form;obtain ⟨A2,c2,rfl⟩:=h.r2.form;refine (f40 A1 A2 M.length E.length c1 c2 mc mo LC LO W h3 h4 (by have:=h.len.1;omega) (by have:=h.len.2.1;omega)).mono fun e w' ⟨he,hB⟩=>⟨_,he,Y0 ?_,hB⟩
   rw [decide_eq_decide];simp only [List.length_eq_zero_iff,true_and];rw [and_comm (a:=LO= [])]
 obtain ⟨rfl,rfl,rfl,rfl,-⟩:=h.no rfl;exact (YI W).mono fun e w' ⟨he,hB⟩=>⟨_,he,Y0 (by simp),hB⟩
def Gs {β:Type} (l:List (aa × β)) (w:World) (e:Ending) (w':World):Prop:=∃A n c xs F',e= .returned (.slice A n c)/\n=xs.length/\KeysOf l xs/\Own aD w.heap.size 110 F' w' (.slice A n c) xs/\(∀b,F' b->w.heap.size<=b/\b<w'.heap.size)/\Below w.heap.size w w'
theorem SP {β:Type} {l:List (aa × β)} {w w':World} {e:Ending} (h:e= .returned (.slice none 0 0)) (hl:l= []) (hb:Below w.heap.size w w'):Gs l w e w':=
 ⟨none,0,0, [],fun _=>False,h,rfl,⟨List.Pairwise.nil,by simp [hl,af]⟩,Own.nil _ _ _ _ _,fun _ h=>h.elim,hb⟩
theorem Zc {β:Type} (w:World):Calls Tryz.prog 41 #[.map none] w (Gs ([]:List (aa × β)) w):=by
 have hrg:=run_range_nilMap (P:=Tryz.prog) w 92 _ _ underlying92;have hnx:∀ty,(Instr.next (.pointer (some ⟨w.heap.size,0,none⟩)) false ty).run Tryz.prog (w.alloc (.mapIter none 0 #[] 0))=_:=fun ty=>run_next_nilMap w ty 0 0 #[]
 go_enter func41,ntmps41;go_wp2;refine wp_loop_rounds 1 ?_;rw [rounds_succ];go_wp2;refine wp_loop_rounds 1 ?_;rw [rounds_succ];go_wp2;go_ret;exact SP rfl rfl (mF _ _)
theorem SQ {β:Type} (f:β->Value) (m:Option Nat) (l:List (aa × β)) (w:World) (h:(m=none/\l= [])\/∃mb,m=some mb/\ah f w mb l) (hl:l.length<=1000000):Calls Tryz.prog 41 #[.map m] w (Gs l w):=by
 rcases h with ⟨rfl,rfl⟩|⟨mb,rfl,h⟩
 · exact Zc w
 refine (f41 f mb l w h hl).mono fun e w' ⟨v,xs,F',he,h1,h2,h3,h4⟩=> ?_
 obtain ⟨A,c,rfl⟩:=h2.form;exact ⟨A,_,c,xs,F',he,rfl,h1,h2,h3,h4⟩
theorem Zd (h:yS F nn root ig pks rq ins ns os lps W v1 v2 m1 m2 M E LC LO):Calls Tryz.prog 41 #[.map m1] W (Gs LC W):=SQ tQ m1 LC W (by
 cases nn
 · obtain ⟨mc,mo,rfl,rfl,h3,h4⟩:=h.yes rfl;exact .inr ⟨_,rfl,h3⟩
 obtain ⟨-,-,rfl,rfl,-,-,h5,h6⟩:=h.no rfl;exact .inl ⟨rfl,h5⟩) h.len.2.2.1
theorem Ze (h:yS F nn root ig pks rq ins ns os lps W v1 v2 m1 m2 M E LC LO):Calls Tryz.prog 41 #[.map m2] W (Gs LO W):=SQ tQ m2 LO W (by
 cases nn
 · obtain ⟨mc,mo,rfl,rfl,h3,h4⟩:=h.yes rfl;exact .inr ⟨_,rfl,h4⟩
 obtain ⟨-,-,rfl,rfl,-,-,h5,h6⟩:=h.no rfl;exact .inl ⟨rfl,h6⟩) h.len.2.2.2
theorem yS.so {nn:Bool} (h:yS F nn root ig pks rq ins ns os lps W v1 v2 m1 m2 M E LC LO) {UC UO:List aa} (hc:KeysOf LC UC) (ho:KeysOf LO UO):(nn=true->M= []/\E= []/\UC= []/\UO= [])/\
 decide (nn=false/\M= []/\E= []/\LC= []/\LO= [])=decide (nn=false/\M= []/\E= []/\UC= []/\UO= [])/\UC.Pairwise iC/\UO.Pairwise iC/\(nn=false->bg root ig pks->yu root ig pks rq ins ns os lps M E UC UO):=by
 have e:∀{L:List (aa × (Value × Value))} {U:List aa},KeysOf L U->(L= []↔U= []):=fun {L U} hk=>by
  constructor
  · rintro rfl;exact List.eq_nil_iff_forall_not_mem.2 fun x hx=>by have:=(hk.2 x).1 hx;simp [af] at this
  rintro rfl
  cases L with
  | nil=>rfl
  | cons p L=>exact absurd ((hk.2 p.1).2 (by simp [af])) (by simp)
 refine ⟨fun hn=> ?_,by rw [decide_eq_decide,e hc,e ho],hc.1,ho.1,fun hn hr=> ?_⟩
 · obtain ⟨-,-,-,-,a,b,c,d⟩:=h.no hn;exact ⟨a,b,(e hc).1 c,(e ho).1 d⟩
 have k:=h.sat hn hr;exact ⟨k.ms,k.m,k.es,k.e,fun r=>by rw [hc.2,k.c],fun r=>by rw [ho.2,k.o]⟩
end
structure JD (q j:Nat) (t:TypeId) (arr:Value->Array Value) (wb wr:World) (ks:List aa) (k:Nat) (v:Value):Prop where
 own:Own aD wb.heap.size 9 (fun b=>v.ownBlock=some b) wr v (ks.take k)
 row:av wr q (arr v) t
 chg:oN (· =q) wb wr
theorem JD.push {q j:Nat} {t:TypeId} {arr:Value->Array Value} {wb wr w7 w8:World} {ks:List aa} {k:Nat} {v v':Value} {x:aa} {F':Nat->Prop} (h:JD q j t arr wb wr ks k v) (hj:(arr v).setIfInBounds j v'=arr v') (hp:q<wb.heap.size) (hk:ks[k]?=some x) (sF:Below wr.heap.size wr w7)
 (hO:Own aD wb.heap.size 9 F' w8 v' (ks.take k++ [x])) (hB:Below wb.heap.size w7 w8):JD q j t arr wb (w8.setCell ⟨q,j,none⟩ v') ks (k+1) v':=by
 have hlt:k<ks.length:=(List.getElem?_eq_some_iff.1 hk).1;have hkx:ks[k]=x:=(List.getElem?_eq_some_iff.1 hk).2;have AQ:=h.chg.size;have hoth:∀b,wb.heap.size<=b->(w8.setCell ⟨q,j,none⟩ v').heap[b]?=w8.heap[b]?:=fun b hb=>heap_setCell_other _ ⟨q,j,none⟩ b _ (by show b≠q;omega)
 refine ⟨?_, ?_,((h.chg.pure (sF.mono AQ)).pure hB).grown (gh _ _ _ _) (.inl rfl)⟩
 · rw [List.take_succ_eq_append_getElem hlt,hkx];exact aX (F':=fun b=>v'.ownBlock=some b) (aX (F:=F') (F':=fun _=>True) hO (fun j _=>rfl) (fun _ _=>trivial)|>fun hq=>cV (aW hq) (fun j hj=>hj)) (fun j hj=>hoth j (ak hO hj).2.1) (fun _ q=>q)
 have:=heap_setCell_same w8 q j _ _ v' ((hB.block _ hp).trans ((sF.block _ (by omega)).trans h.row))
 rwa [hj] at this
theorem JD.lt {q j:Nat} {t:TypeId} {arr:Value->Array Value} {wb wr:World} {ks:List aa} {k:Nat} {v:Value} (h:JD q j t arr wb wr ks k v) (b:Nat) (hb:v.ownBlock=some b):b<wr.heap.size:=(ak h.own hb).2.2.1
theorem Zf (a b p d:Nat) (w:World):Calls Tryz.prog 35 #[.map (some a), .map (some b), .pointer (some ⟨p,0,none⟩), .map (some d)] w fun e w'=>e= .returned (.iface 179 (.agg #[.map (some a), .map (some b), .pointer (some ⟨p,0,none⟩), .map (some d)]))/\Below w.heap.size w w':=
 (f35 a b p d w).mono fun e w' ⟨h,hw⟩=>⟨h,hw▸Below.refl _ _⟩
theorem JE {base:Nat} {e t:TypeId} {F:Nat->Prop} {w:World} {v:Value} {l:List aa} {z:Array Value} {p:Nat} (h:Own aD base e F w v l) (hp:av w p z t) (hne:e≠t):v.ownBlock≠some p:=by
 intro hk;obtain ⟨-,-,-,cur,hc⟩:=ak h hk;have hp2:w.heap[p]?=some (.cells z t (0,0)):=hp;rw [hc] at hp2;simp only [Option.some.injEq,Obj.cells.injEq] at hp2;have hp:=hp2;exact hne hp.2.1
theorem oU {base:Nat} {e:TypeId} {F:Nat->Prop} {w w':World} {v:Value} {l:List aa} (h:Own aD base e F w v l) (hg:w.grownBy w' v.ownBlock) (hb:base<=w.heap.size):Below base w w':=Below.of_grown hg (fun k hk=>(ak h hk).2.1) hb
theorem kZ {F:Nat->Prop} {W W':World} {v:Value} {xs:List aa} {p:Nat} {z:Array Value} {t:TypeId} (h:bK F W v xs) (hp:av W p z t) (hz:∀(j:Nat) (s:aa),z[j]?≠some (.string s)) (hk:∀k,k<W.heap.size->k≠p->W'.heap[k]?=W.heap[k]?) (hs:W.heap.size<=W'.heap.size):bK F W' v xs:=by
 obtain ⟨A,cap,hv,h1,h2,h3⟩:=h;refine ⟨A,cap,hv,h1,h2, ?_⟩;rcases h3 with h3|⟨g,off,hA,hF,hg,hx⟩
 · exact .inl h3
 by_cases hn:xs= []
 · exact .inl hn
 have Mu:g≠p:=by
  rintro rfl;obtain ⟨x,xs,rfl⟩:=List.exists_cons_of_ne_nil hn;obtain ⟨cs,hcs,hc⟩:=hx 0 x rfl;have hcs':cs= [.string x]:=hcs;subst hcs';have:=hc 0 _ rfl;rw [cell_of_row W g _ z t (0,0) hp] at this;exact hz _ _ this
 exact .inr ⟨g,off,hA,hF,by omega,fun i x hi=>by
  obtain ⟨cs,hcs,hc⟩:=hx i x hi;exact ⟨cs,hcs,fun j u hu=>(World.cell?_of_block (w:=W) (a:=⟨g,off+i*aD.sz+j,none⟩) (hk g hg Mu)).trans (hc j u hu)⟩⟩
theorem map_set {W W':World} {β:Type} {f:β->Value} {m:Nat} {l:List (aa × β)} {p:Nat} {z:Array Value} {t:TypeId} (h:ah f W m l) (hp:av W p z t) (hk:∀k,k<W.heap.size->k≠p->W'.heap[k]?=W.heap[k]?):ah f W' m l:=h.keep (hk m h.lt (by
 rintro rfl;obtain ⟨es,c,h,-⟩:=h;rw [hp] at h;cases h))
theorem yS.set {F:Nat->Prop} {nn:Bool} {root:aa} {ig:List aa} {pks:List Pk} {rq ins:List aa} {ns os:List Nd} {lps:List iK} {W W':World} {v1 v2:Value} {m1 m2:Option Nat} {M E:List aa} {LC LO:List (aa × (Value × Value))} {p:Nat} {z:Array Value} {t:TypeId} (h:yS F nn root ig pks rq ins ns os lps W v1 v2 m1 m2 M E LC LO)
 (hp:av W p z t) (hz:∀(j:Nat) (s:aa),z[j]?≠some (.string s)) (hk:∀k,k<W.heap.size->k≠p->W'.heap[k]?=W.heap[k]?) (hs:W.heap.size<=W'.heap.size):yS F nn root ig pks rq ins ns os lps W' v1 v2 m1 m2 M E LC LO:=
 ⟨kZ h.r1 hp hz hk hs,kZ h.r2 hp hz hk hs,fun hn=>by obtain ⟨a,b,c,d,e,f⟩:=h.yes hn;exact ⟨a,b,c,d,map_set e hp hk,map_set f hp hk⟩,h.no,h.len,h.sat⟩
theorem Zg (j:Nat) (s:aa):qa[j]?≠some (.string s):=by
 match j with
 | 0|1|2|3|4=>exact fun h=>by cases h
 | n+5=>exact fun h=>by simp at h
abbrev AK:Array Value:= #[.bool false, .slice none 0 0, .slice none 0 0, .slice none 0 0, .slice none 0 0, .bool false]
theorem NU (j:Nat) (s:aa):AK[j]?≠some (.string s):=by
 match j with
 | 0|1|2|3|4|5=>exact fun h=>by cases h
 | n+6=>exact fun h=>by simp at h
theorem oV:(Tryz.prog.info? 39).map (·.size)=some 6:=by kernel_rfl
theorem SR (b:Bool) (A1 A2:Option Addr) (n1 n2 c1 c2:Nat) (m1 m2:Option Nat):(#[.bool b, .slice A1 n1 c1, .slice A2 n2 c2, .map m1, .map m2]:Array Value).all (·.oneCell')=true:=by
 simp only [List.all_toArray,List.all_cons,List.all_nil,kY,oP,BU,Bool.and_self]
theorem BV (b s:Bool) (A1 A2 A3 A4:Option Addr) (n1 n2 n3 n4 c1 c2 c3 c4:Nat):(#[.bool b, .slice A1 n1 c1, .slice A2 n2 c2, .slice A3 n3 c3, .slice A4 n4 c4, .bool s]:Array Value).all (·.oneCell')=true:=by
 simp only [List.all_toArray,List.all_cons,List.all_nil,kY,oP,Bool.and_self]
theorem JG (b s:Bool) (A1 A2 A3 A4:Option Addr) (n1 n2 n3 n4 c1 c2 c3 c4:Nat) (j:Nat) (x:aa):(#[.bool b, .slice A1 n1 c1, .slice A2 n2 c2, .slice A3 n3 c3, .slice A4 n4 c4, .bool s]:Array Value)[j]?≠some (.string x):=by
 match j with
 | 0|1|2|3|4|5=>exact fun h=>by cases h
 | n+6=>exact fun h=>by simp at h
theorem JD.rd {F:Nat->Prop} {q j:Nat} {t:TypeId} {arr:Value->Array Value} {wb wr:World} {ks:List aa} {v:Value} (h:JD q j t arr wb wr ks ks.length v) (hF:∀b,F b->b<wb.heap.size):bK F wr v ks:=by
 have:=h.own;rw [List.take_length] at this;exact (aX (F':=fun _=>True) this (fun _ _=>rfl) (fun _ _=>trivial)).rd hF (fun _ _=>trivial) (by decide)
theorem yw {β:Type} {l:List (aa × β)} {xs:List aa} (h:KeysOf l xs):xs.length<=l.length:=by
 have:=bQ (ej h.1) (fun x hx=>(h.2 x).1 hx);simpa [af] using this
theorem yS.fin {F:Nat->Prop} {nn:Bool} {root:aa} {ig:List aa} {pks:List Pk} {rq ins:List aa} {ns os:List Nd} {lps:List iK} {W:World} {v1 v2:Value} {m1 m2:Option Nat} {M E:List aa} {LC LO:List (aa × (Value × Value))} {UC UO:List aa} {sat:Bool} (h:yS F nn root ig pks rq ins ns os lps W v1 v2 m1 m2 M E LC LO) (hc:KeysOf LC UC) (ho:KeysOf LO UO) (hs:sat=decide (nn=false/\M= []/\E= []/\LC= []/\LO= [])):
 (nn=true->M= []/\E= []/\UC= []/\UO= []/\sat=false)/\(nn=false->sat=decide (M= []/\E= []/\UC= []/\UO= [])/\UC.Pairwise iC/\UO.Pairwise iC/\(bg root ig pks->yu root ig pks rq ins ns os lps M E UC UO)):=by
 obtain ⟨h1,h2,h3,h4,h5⟩:=h.so hc ho;rw [h2] at hs;refine ⟨fun hn=> ?_,fun hn=>⟨?_,h3,h4,h5 hn⟩⟩
 · obtain ⟨a,b,c,d⟩:=h1 hn;exact ⟨a,b,c,d,by rw [hs,hn];simp⟩
 rw [hs,hn];simp
theorem Ev.of {w:World} {P:World->Prop} (h:∀W,Below w.heap.size w W->P W):Ev w P:=h
def uY (os:List Nd) (l:LD):Bool:=match bI os l.root with
 | some n=> !(n.c.g.1.mat (jH l.v))
 | none=>false
def rX (ns os:List Nd) (cs:List aa) (l:LD):Bool:=match bI os l.root,bI ns l.root with
 | none,some n=>fQ cs l.root && !(n.c.g.1.mat (jH l.v))
 | _,_=>false
def dJ (p:LD->Bool) (ls:List LD):List aa:=(ls.filter p).map (·.root)
theorem tR {p:LD->Bool} {ls:List LD} {k:Nat} (h:k<ls.length) (hp:p ls[k]=true):dJ p (ls.take (k+1))=dJ p (ls.take k)++ [ls[k].root]:=by
 unfold dJ;rw [List.take_succ_eq_append_getElem h,List.filter_append,List.map_append];simp [hp]
theorem yx {p:LD->Bool} {ls:List LD} {k:Nat} (h:k<ls.length) (hp:p ls[k]=false):dJ p (ls.take (k+1))=dJ p (ls.take k):=by
 unfold dJ;rw [List.take_succ_eq_append_getElem h,List.filter_append,List.map_append];simp [hp]
theorem lH {p:LD->Bool} {ls:List LD}:(dJ p ls).length<=ls.length:=by
 unfold dJ;rw [List.length_map];exact List.length_filter_le _ _
theorem tS {p:LD->Bool} {ls:List LD} {r:aa}:r∈dJ p ls↔∃l∈ls,p l=true/\l.root=r:=by
 unfold dJ;rw [List.mem_map];constructor
 · rintro ⟨l,h,rfl⟩;exact ⟨l,(List.mem_filter.1 h).1,(List.mem_filter.1 h).2,rfl⟩
 rintro ⟨l,h1,h2,rfl⟩;exact ⟨l,List.mem_filter.2 ⟨h1,h2⟩,rfl⟩
theorem BW {os:List Nd} {l:LD}:uY os l=true↔∃n,bI os l.root=some n/\n.c.g.1.mat (jH l.v)=false:=by
 unfold uY;cases h:bI os l.root<;>simp
theorem BX {ns os:List Nd} {cs:List aa} {l:LD}:rX ns os cs l=true↔bI os l.root=none/\(∃n,bI ns l.root=some n/\n.c.g.1.mat (jH l.v)=false)/\l.root∈cs:=by
 unfold rX;cases h:bI os l.root<;>cases h2:bI ns l.root<;>simp [fC,and_comm]
theorem Dc {root:aa} {ig:List aa} {pks:List Pk} {rq ins:List aa} {ns os:List Nd} {ls:List LD} {M E UC UO I:List aa} (hS:yu root ig pks rq ins ns os (ls.map LD.lp) M E UC UO) (hc:UC.Pairwise iC) (ho:UO.Pairwise iC)
 (hI:∀x,x∈I↔(xY root ig pks x/\cW x.data.toList=false)\/x∈rq):
 M=fM I ins/\E=fM ins I/\UC=eu (dJ (rX ns os (qE (ns.map (·.root)) I)) ls)/\UO=eu (dJ (uY os) ls):=by
 have hI':∀x,x∈I↔NC root ig pks rq x:=hI;refine ⟨nA hS.ms (fy _ _).1 fun s=> ?_,nA hS.es (fy _ _).1 fun s=> ?_,nA hc (fA _).1 fun s=> ?_,nA ho (fA _).1 fun s=> ?_⟩
 · rw [hS.m,(fy _ _).2,hI']
 · rw [hS.e,(fy _ _).2,hI']
 · rw [hS.c,(fA _).2,tS];unfold YC;constructor
   · rintro ⟨l,hl,hr,h1,h2,x,h3,h4⟩;obtain ⟨x0,hx0,rfl⟩:=List.mem_map.1 hl;subst hr;exact ⟨x0,hx0,BX.2 ⟨h1,h2,(pG _ _ _).2 ⟨x,(hI' x).2 h3,h4⟩⟩,rfl⟩
   rintro ⟨l,hl,h,rfl⟩;obtain ⟨h1,h2,h3⟩:=BX.1 h;obtain ⟨x,h4,h5⟩:=(pG _ _ _).1 h3;exact ⟨l.lp,List.mem_map.2 ⟨l,hl,rfl⟩,rfl,h1,h2,x,(hI' x).1 h4,h5⟩
 rw [hS.o,(fA _).2,tS];unfold G6;constructor
 · rintro ⟨l,hl,hr,n,h1,h2⟩;obtain ⟨x0,hx0,rfl⟩:=List.mem_map.1 hl;subst hr;exact ⟨x0,hx0,BW.2 ⟨n,h1,h2⟩,rfl⟩
 rintro ⟨l,hl,h,rfl⟩;obtain ⟨n,h1,h2⟩:=BW.1 h;exact ⟨l.lp,List.mem_map.2 ⟨l,hl,rfl⟩,rfl,n,h1,h2⟩
theorem iJ {l:List aa} {n:Nat} (h:cr l (n:Int)=true):l.length<=n/\∀x∈l,x.size<=40:=by
 unfold cr at h;rw [Bool.and_eq_true,decide_eq_true_eq,List.all_eq_true] at h;exact ⟨by omega,fun x hx=>(rV (h.1 x hx)).2⟩
theorem yz {l:List aa} (h:fI l=true):l.length<=8/\∀x∈l,x.size<=1000000/\mB x:=by
 unfold fI at h;rw [Bool.and_eq_true,decide_eq_true_eq,List.all_eq_true] at h;refine ⟨by omega,fun x hx=> ?_⟩;have h1:=h.1 x hx;unfold jO at h1;rw [Bool.or_eq_true,decide_eq_true_eq] at h1
 have hs:x.size<=(aw x).1.size+1:=by
  unfold aw;split
  · split
    · simp [ByteArray.size_extract];try omega
    exact Nat.le_succ _
  exact Nat.le_succ _
 rcases h1 with h1|h1
 · have h2:(aw x).1.size=0:=by
    rw [ByteArray.toList_eq] at h1;have:=congrArg List.length h1;simpa using this
   exact ⟨by omega, .inl (by rw [ByteArray.toList_eq] at h1;exact h1)⟩
 have h2:=rV h1;refine ⟨by omega, .inr ?_⟩;unfold aV at h1;simp only [Bool.and_eq_true] at h1;exact h1.1.1
theorem JH {v:VD} (h:fY v=true):(jH v).Lk:=by
 unfold fY at h;rw [decide_eq_true_eq] at h;have ne:∀s:aa,s.size=0->s=ByteArray.empty:=fun s hs=>ByteArray.ext (Array.eq_empty_of_size_eq_zero hs)
 unfold jH;split
 · exact fun e=>h.1 (ne _ e)
 split
 · trivial
 assumption
theorem SS {l:LD} (h:C7 l):l.Ok/\l.lp.g.Lk/\l.lp.g.Ok:=by
 have h1:=tP h.v;have h2:=(iJ (n:=8) h.pkgs).1;have h3:=h.dig;exact ⟨⟨h1.1,h1.2,by omega,by omega⟩,JH h.v,uv h1.1 h1.2⟩
theorem JI {root:aa} {pks:List Pk} (h:oM root pks):(pks.map (·.path)).Nodup:=by
 rw [List.nodup_iff_pairwise_ne,List.pairwise_iff_getElem];intro i j hi hj hij;rw [List.length_map] at hi hj;rw [List.getElem_map,List.getElem_map];exact fun e=>h.till.two i j hij hj hj e.symm
theorem SU {F:Nat->Prop} {w:World} {root:aa} {ls:List LD} {ns os:List Nd} {ig rq ins:List aa} {pks:List Pk} (h1:uT ins ls) (h2:oM root pks) (h3:fI ig=true) (h4:cr rq 8=true) (h5:fJ ns) (h6:fJ os) (hF:∀b,F b->b<w.heap.size):
 NT F w root ls ns os ig rq ins pks where
 nd:=JI h2
 px:=fun q hq=>by
  have:=h2.till.one q (by simpa using hq);have hi:=iJ (n:=8) this.imps;have ht:=iJ (n:=8) this.tests;have hp:=(rV this.path).2;refine ⟨by omega,fun x hx=> ?_,by omega⟩;rcases List.mem_append.1 hx with hx|hx
  · have:=hi.2 x hx;omega
  have:=ht.2 x hx;omega
 rt:=by have:=(rV h2.rt).2;omega
 pl:=by have:=h2.n;omega
 ns:=h5
 os:=h6
 lo:=fun l hl=>SS (h1.one l hl)
 ln:=by have:=h1.n;omega
 i1:=by have:=(iJ (n:=8) h1.ins).1;omega
 i2:=fun x hx=>by have:=(iJ (n:=8) h1.ins).2 x hx;omega
 r1:=by have:=(iJ (n:=8) h4).1;omega
 r2:=fun x hx=>by have:=(iJ (n:=8) h4).2 x hx;omega
 g1:=(yz h3).1
 g2:=(yz h3).2
 fl:=hF
def kI (k:IntKind):Kd Int where
 sz:=1
 rep:=fun _ _ x cs=>cs= [.int k x]
 len:=fun h=>by rw [h];rfl
 one:=fun h u hu=>by rw [h] at hu;simp at hu;rw [hu];rfl
 step:=fun _ _ h=>h
def kB:Kd Bool where
 sz:=1
 rep:=fun _ _ x cs=>cs= [.bool x]
 len:=fun h=>by rw [h];rfl
 one:=fun h u hu=>by rw [h] at hu;simp at hu;rw [hu];rfl
 step:=fun _ _ h=>h
def Zh:Kd (Option Addr × Nat × Nat) where
 sz:=1
 rep:=fun _ _ x cs=>cs= [.slice x.1 x.2.1 x.2.2]
 len:=fun h=>by rw [h];rfl
 one:=fun h u hu=>by rw [h] at hu;simp at hu;rw [hu];rfl
 step:=fun _ _ h=>h
def Zi:Kd VD where
 sz:=3
 rep:=fun _ _ v cs=>cs= [.int .i64 v.kind, .string v.text, .string v.rev]
 len:=fun h=>by rw [h];rfl
 one:=fun h u hu=>by rw [h] at hu;simp at hu;rcases hu with rfl|rfl|rfl<;>rfl
 step:=fun _ _ h=>h
def kCD:Kd CD where
 sz:=6
 rep:=fun _ _ c cs=>∃A m d,cs= [.int .i64 c.kind, .string c.text, .int .i64 c.v.kind, .string c.v.text, .string c.v.rev, .slice A m d]
 len:=fun ⟨_,_,_,h⟩=>by rw [h];rfl
 one:=fun ⟨_,_,_,h⟩ u hu=>by rw [h] at hu;simp at hu;rcases hu with rfl|rfl|rfl|rfl|rfl|rfl<;>rfl
 step:=fun _ _ h=>h
theorem tT {P:Program} {t:TypeId} {k:IntKind} (ht:P.underlying t=some (.int k)):dV P t (kI k) (fun _=>True):=by
 intro H enc w base spare held fuel cs x h hz;obtain ⟨n,rfl,-,-⟩:=DataW.trod_int ht h;exact ⟨n,rfl,trivial⟩
theorem AL {P:Program} {t:TypeId} (ht:P.underlying t=some .bool):dV P t kB (fun _=>True):=by
 intro H enc w base spare held fuel cs x h hz;obtain ⟨n,rfl,-⟩:=DataW.trod_bool ht h;exact ⟨n,rfl,trivial⟩
theorem Gt {P:Program} {t e:TypeId} (ht:P.underlying t=some (.slice e)):dV P t Zh (fun _=>True):=by
 intro H enc w base spare held fuel cs x h hz;rcases DataW.trod_slice ht h with ⟨rfl,-⟩|⟨a,len,cap,_,_,_,-,rfl,-⟩
 · exact ⟨(none,0,0),rfl,trivial⟩
 exact ⟨(some a,len,cap),rfl,trivial⟩
theorem o9:dV Tryz.prog 9 aD (fun s=>s.size<=140737488351232):=CB underlying9
theorem o2:dV Tryz.prog 2 (kI .i64) (fun _=>True):=tT underlying2
theorem o5:dV Tryz.prog 5 (kI .u8) (fun _=>True):=tT underlying5
theorem o4:dV Tryz.prog 4 kB (fun _=>True):=AL underlying4
theorem O3:dV Tryz.prog 22 (B6 aD) (fun l=>l.length*Tryz.prog.bytesOf 9<=reachBytes/\∀x∈l,x.size<=140737488351232):=gu underlying22 (by kernel_rfl) (by decide) o9
theorem o53:dV Tryz.prog 53 (B6 IB) (fun l=>l.length*Tryz.prog.bytesOf 5<=reachBytes/\∀x∈l,True):=gu underlying53 (by kernel_rfl) (by decide) (E1 underlying5)
theorem o56:dV Tryz.prog 56 Zh (fun _=>True):=Gt underlying56
theorem n3:Tryz.prog.cellsOf 52=3/\Tryz.prog.cellsOf 58=6/\Tryz.prog.cellsOf 23=1/\Tryz.prog.cellsOf 26=1/\Tryz.prog.cellsOf 27=1/\Tryz.prog.cellsOf 29=2:=⟨by kernel_rfl,by kernel_rfl,by kernel_rfl,by kernel_rfl,by kernel_rfl,by kernel_rfl⟩
theorem o52:dV Tryz.prog 52 Zi (fun v=>v.text.size<=140737488351232/\v.rev.size<=140737488351232):=by
 intro H enc w base spare held fuel cs x h hz;obtain ⟨hl,hf⟩:=dG underlying52 h hz;rw [n3.1] at hl;obtain ⟨a,h1,-⟩:=hf 0 _ rfl 1 (by kernel_rfl) o2;obtain ⟨b,h2,z2⟩:=hf 1 _ rfl 1 (by kernel_rfl) o9;obtain ⟨c,h3,z3⟩:=hf 2 _ rfl 1 (by kernel_rfl) o9
 match cs,hl with
 | [c0,c1,c2],_=>
   simp only [kI,aD] at h1 h2 h3;simp at h1 h2 h3;subst h1 h2 h3;exact ⟨⟨a,b,c⟩,rfl,z2,z3⟩
theorem o58:dV Tryz.prog 58 kCD (fun c=>c.v.text.size<=140737488351232/\c.v.rev.size<=140737488351232):=by
 intro H enc w base spare held fuel cs x h hz;obtain ⟨hl,hf⟩:=dG underlying58 h hz;rw [n3.2.1] at hl;obtain ⟨a,h1,-⟩:=hf 0 _ rfl 1 (by kernel_rfl) o2;obtain ⟨b,h2,-⟩:=hf 1 _ rfl 1 (by kernel_rfl) o9;obtain ⟨v,h3,z3⟩:=hf 2 _ rfl 3 (by kernel_rfl) o52;obtain ⟨s,h4,-⟩:=hf 3 _ rfl 1 (by kernel_rfl) o56
 match cs,hl with
 | [c0,c1,c2,c3,c4,c5],_=>
   simp only [kI,aD,Zi,Zh] at h1 h2 h3 h4;simp at h1 h2 h3 h4;obtain ⟨rfl,rfl,rfl⟩:=h3;subst h1 h2 h4;exact ⟨⟨a,b,v⟩,⟨_,_,_,rfl⟩,z3⟩
theorem o73:dV Tryz.prog 73 Dp NG:=by
 intro H enc w base spare held fuel cs x h hz;obtain ⟨hl,hf⟩:=dG underlying73 h hz;rw [show Tryz.prog.cellsOf 73=8 by kernel_rfl] at hl;obtain ⟨a,h1,z1⟩:=hf 0 _ rfl 1 (by kernel_rfl) o9;obtain ⟨b,h2,-⟩:=hf 1 _ rfl 1 (by kernel_rfl) o9;obtain ⟨c,h3,z3⟩:=hf 2 _ rfl 6 (by kernel_rfl) o58
 match cs,hl with
 | [c0,c1,c2,c3,c4,c5,c6,c7],_=>
   simp only [aD,kCD] at h1 h2 h3;simp at h1 h2 h3;obtain ⟨rfl,rfl,rfl,rfl,rfl,A,m,d,rfl⟩:=h3;subst h1 h2;exact ⟨⟨a,b,c⟩,⟨_,_,_,rfl⟩,z1,z3.1,z3.2⟩
theorem o55:dV Tryz.prog 55 E0 Sq:=by
 intro H enc w base spare held fuel cs x h hz;obtain ⟨hl,hf⟩:=dG underlying55 h hz;rw [show Tryz.prog.cellsOf 55=10 by kernel_rfl] at hl;obtain ⟨a,h1,z1⟩:=hf 0 _ rfl 1 (by kernel_rfl) o9;obtain ⟨b,h2,z2⟩:=hf 1 _ rfl 1 (by kernel_rfl) o9;obtain ⟨v,h3,z3⟩:=hf 2 _ rfl 3 (by kernel_rfl) o52;obtain ⟨p,⟨pv,h4,hp⟩,z4⟩:=hf 3 _ rfl 1 (by kernel_rfl) O3;obtain ⟨q,h5,-⟩:=hf 4 _ rfl 1 (by kernel_rfl) o4;obtain ⟨r,h6,-⟩:=hf 5 _ rfl 1 (by kernel_rfl) o5;obtain ⟨s,h7,-⟩:=hf 6 _ rfl 1 (by kernel_rfl) o2;obtain ⟨u,⟨dv,h8,hd⟩,-⟩:=hf 7 _ rfl 1 (by kernel_rfl) o53
 match cs,hl with
 | [c0,c1,c2,c3,c4,c5,c6,c7,c8,c9],_=>
   simp only [aD,Zi,kB,kI] at h1 h2 h3 h4 h5 h6 h7 h8;simp at h1 h2 h3 h4 h5 h6 h7 h8;obtain ⟨rfl,rfl,rfl⟩:=h3;subst h1 h2 h4 h5 h6 h7 h8;exact ⟨⟨a,b,v,p,q,r,s,u⟩,⟨_,_,rfl,hp,hd⟩,z1,z2,z3.1,z3.2,z4.2⟩
theorem Zj:dV Tryz.prog 122 pU ND:=by
 intro H enc w base spare held fuel cs x h hz;obtain ⟨hl,hf⟩:=dG underlying122 h hz;rw [show Tryz.prog.cellsOf 122=5 by kernel_rfl] at hl;obtain ⟨a,h1,z1⟩:=hf 0 _ rfl 1 (by kernel_rfl) o9;obtain ⟨b,h2,-⟩:=hf 1 _ rfl 1 (by kernel_rfl) o9;obtain ⟨p,⟨pv,h3,hp⟩,z3⟩:=hf 2 _ rfl 1 (by kernel_rfl) O3;obtain ⟨q,⟨qv,h4,hq⟩,z4⟩:=hf 3 _ rfl 1 (by kernel_rfl) O3;obtain ⟨e,h5,-⟩:=hf 4 _ rfl 1 (by kernel_rfl) o9
 match cs,hl with
 | [c0,c1,c2,c3,c4],_=>
   simp only [aD] at h1 h2 h3 h4 h5;simp at h1 h2 h3 h4 h5;subst h1 h2 h3 h4 h5;exact ⟨⟨a,b,p,q,e⟩,⟨_,_,rfl,hp,hq⟩,z1,z3.2,z4.2⟩
instance:Inhabited LD:=⟨⟨⟨#[]⟩,⟨#[]⟩,⟨0,⟨#[]⟩,⟨#[]⟩⟩, [],false,0,0, []⟩⟩
instance:Inhabited Nd:=⟨⟨⟨#[]⟩,⟨#[]⟩,KX⟩⟩
instance:Inhabited Pk:=⟨⟨⟨#[]⟩,⟨#[]⟩, [], [],⟨#[]⟩⟩⟩
theorem o23:dV Tryz.prog 23 (B6 E0) (fun l=>l.length*Tryz.prog.bytesOf 55<=reachBytes/\∀x∈l,Sq x):=gu underlying23 (by kernel_rfl) (by decide) o55
theorem o26:dV Tryz.prog 26 (B6 Dp) (fun l=>l.length*Tryz.prog.bytesOf 73<=reachBytes/\∀x∈l,NG x):=gu underlying26 (by kernel_rfl) (by decide) o73
theorem o27:dV Tryz.prog 27 (B6 pU) (fun l=>l.length*Tryz.prog.bytesOf 122<=reachBytes/\∀x∈l,ND x):=gu underlying27 (by kernel_rfl) (by decide) Zj
structure Dz (wb wr:World) (vu vo:Value) (U O:List aa):Prop where
 u:Own aD wb.heap.size 9 (fun b=>vu.ownBlock=some b) wr vu U
 o:Own aD wb.heap.size 9 (fun b=>vo.ownBlock=some b) wr vo O
 ne:∀j,vu.ownBlock=some j->vo.ownBlock≠some j
 b:Below wb.heap.size wb wr
section
variable {wb wr w' w7 w8:World} {vu vo v':Value} {U O:List aa} {x:aa} {F':Nat->Prop}
theorem Dz.pure (h:Dz wb wr vu vo U O) (hb:Below wr.heap.size wr w'):Dz wb w' vu vo U O:=⟨h.u.pure hb,h.o.pure hb,h.ne,h.b.trans (hb.mono h.b.size)⟩
theorem Gu {v:Value} {L:List aa} {F':Nat->Prop} {w:World} {B:Nat} (h:Own aD B 9 F' w v L):Own aD B 9 (fun b=>v.ownBlock=some b) w v L:=cV (aW h) (fun _ hj=>hj)
theorem Dz.pushO (h:Dz wb w7 vu vo U O) (hO:Own aD wb.heap.size 9 F' w8 v' (O++ [x])) (hS:dw (fun b=>vo.ownBlock=some b) w7 F' w8) (hB:Below wb.heap.size w7 w8) (hG:w7.grownBy w8 vo.ownBlock):Dz wb w8 vu v' U (O++ [x]):=
 ⟨aX h.u (fun j hj=>hG.block j (ak h.u hj).2.2.1 (fun e=>h.ne j hj e.symm)) (fun _ q=>q),Gu hO,fun j hj e=>h.ne j hj (hS.old j (ak h.u hj).2.2.1 (bh hO e)),h.b.trans hB⟩
theorem Dz.pushU (h:Dz wb w7 vu vo U O) (hO:Own aD wb.heap.size 9 F' w8 v' (U++ [x])) (hS:dw (fun b=>vu.ownBlock=some b) w7 F' w8) (hB:Below wb.heap.size w7 w8) (hG:w7.grownBy w8 vu.ownBlock):Dz wb w8 v' vo (U++ [x]) O:=
 ⟨Gu hO,aX h.o (fun j hj=>hG.block j (ak h.o hj).2.2.1 (fun e=>h.ne j e.symm hj)) (fun _ q=>q),fun j hj e=>h.ne j (hS.old j (ak h.o e).2.2.1 (bh hO hj)) e,h.b.trans hB⟩
theorem Dz.lt (h:Dz wb wr vu vo U O):(∀b,vu.ownBlock=some b->b<wr.heap.size)/\∀b,vo.ownBlock=some b->b<wr.heap.size:=⟨fun _ hb=>(ak h.u hb).2.2.1,fun _ hb=>(ak h.o hb).2.2.1⟩
end
theorem yA {os:List Nd} {l:LD} {c:CD} {m:Bool} (h:(bI os l.root).isSome=true) (hc:∀n,bI os l.root=some n->c=n.c) (hm:c.g.1.mat (jH l.v)=m):uY os l= !m:=by
 obtain ⟨n,hn⟩:=Option.isSome_iff_exists.1 h;unfold uY;rw [hn];simp only;rw [<-hc n hn,hm]
theorem nQ {os:List Nd} {l:LD} (h:(bI os l.root).isSome=false):uY os l=false:=by
 unfold uY
 cases hn:bI os l.root with
 | none=>rfl
 | some n=>rw [hn] at h;cases h
theorem yB {ns os:List Nd} {cs:List aa} {l:LD} (h:(bI os l.root).isSome=true):rX ns os cs l=false:=by
 unfold rX
 cases hn:bI os l.root with
 | none=>rw [hn] at h;cases h
 | some n=>rfl
theorem Dd {ns os:List Nd} {cs:List aa} {l:LD} (h:(bI ns l.root).isSome=false):rX ns os cs l=false:=by
 unfold rX
 cases hn:bI ns l.root with
 | none=>cases bI os l.root<;>rfl
 | some n=>rw [hn] at h;cases h
theorem De {ns os:List Nd} {cs:List aa} {l:LD} (h:fQ cs l.root=false):rX ns os cs l=false:=by
 unfold rX;cases bI os l.root<;>cases bI ns l.root<;>simp [h]
theorem tU {ns os:List Nd} {cs:List aa} {l:LD} {c:CD} {m:Bool} (h0:(bI os l.root).isSome=false) (h:(bI ns l.root).isSome=true) (h1:fQ cs l.root=true) (hc:∀n,bI ns l.root=some n->c=n.c) (hm:c.g.1.mat (jH l.v)=m):rX ns os cs l= !m:=by
 obtain ⟨n,hn⟩:=Option.isSome_iff_exists.1 h
 have h2:bI os l.root=none:=by
  cases hk:bI os l.root with
  | none=>rfl
  | some k=>rw [hk] at h0;cases h0
 unfold rX;rw [hn,h2];simp only;rw [<-hc n hn,hm,h1];simp
theorem yC {ns:List Nd} {l:LD} {c:CD} (hn:fJ ns) (hc:∀n,bI ns l.root=some n->c=n.c) (h:(bI ns l.root).isSome=true):c.Ok:=by
 obtain ⟨n,hk⟩:=Option.isSome_iff_exists.1 h;rw [hc n hk];exact (hn.one n (tO hk).1).ok
end Go.Proofs.YtjenhelmpcajfaaGreatDoor
