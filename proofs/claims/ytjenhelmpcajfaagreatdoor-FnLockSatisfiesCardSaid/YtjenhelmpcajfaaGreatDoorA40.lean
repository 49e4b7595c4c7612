/- a lock is held against its inputs -/
import Derived.Test.YtjenhelmpcajfaaGreatDoorA37
import Derived.Test.YtjenhelmpcajfaaGreatDoorA38
set_option linter.all false
set_option maxRecDepth 100000
set_option maxHeartbeats 16000000
namespace Go.Proofs.YtjenhelmpcajfaaGreatDoor
open Go.Proofs.Tryz Go.RowKit
structure dX (w:World) (m:Nat) (l:List (aa × Bool)) (P:aa->Prop):Prop where
 map:ah aO w m l
 val:∀t v,ai l t=some v->v=true
 key:∀x,x∈af l↔P x
theorem dX.none {w:World} {m:Nat} (h:ah aO w m []) {P:aa->Prop} (hP:∀x,¬P x):dX w m [] P:=⟨h,fun _ _ h=>(by cases h),fun x=>⟨fun h=>(by cases h),fun h=>absurd h (hP x)⟩⟩
theorem dX.put {w w':World} {m:Nat} {l:List (aa × Bool)} {P Q:aa->Prop} (h:dX w m l P) {s:aa} (hM:ah aO w' m (bN l s true)) (hQ:∀x,Q x↔x=s\/P x):dX w' m (bN l s true) Q:=
 ⟨hM,fun t v ht=>by
  rw [bk] at ht;split at ht
  · exact (Option.some.inj ht).symm
  exact h.val t v ht,fun x=>by rw [bH,hQ,h.key]⟩
theorem dX.del {w w':World} {m:Nat} {l:List (aa × Bool)} {P Q:aa->Prop} (h:dX w m l P) {s:aa} (hM:ah aO w' m (lI l s)) (hQ:∀x,Q x↔x≠s/\P x):dX w' m (lI l s) Q:=
 ⟨hM,fun t v ht=>by
  rw [vR h.map.nodup] at ht;split at ht
  · cases ht
  · exact h.val t v ht,fun x=>by
  rw [<-aF,vR h.map.nodup,hQ,<-h.key,<-aF];by_cases e:s=x
  · subst e;simp
  simp [e,Ne.symm e]⟩
theorem dX.keep {w w':World} {m:Nat} {l:List (aa × Bool)} {P:aa->Prop} (h:dX w m l P) (hk:w'.heap[m]?=w.heap[m]?):dX w' m l P:=⟨h.map.keep hk,h.val,h.key⟩
theorem dX.iff {w:World} {m:Nat} {l:List (aa × Bool)} {P Q:aa->Prop} (h:dX w m l P) (hQ:∀x,Q x↔P x):dX w m l Q:=⟨h.map,h.val,fun x=>by rw [h.key,hQ]⟩
theorem dX.yes {w:World} {m:Nat} {l:List (aa × Bool)} {P:aa->Prop} (h:dX w m l P) {s:aa} (hs:P s):((ai l s).map aO).getD (.bool false)= .bool true:=by
 obtain ⟨v,hv⟩:=Option.isSome_iff_exists.1 (aF.2 ((h.key s).2 hs));rw [hv,h.val s v hv];rfl
theorem dX.no {w:World} {m:Nat} {l:List (aa × Bool)} {P:aa->Prop} (h:dX w m l P) {s:aa} (hs:¬P s):((ai l s).map aO).getD (.bool false)= .bool false:=by
 have:ai l s=Option.none:=fO.2 (fun e=>hs ((h.key s).1 e));rw [this];rfl
theorem gZ {β:Type} {left left':List (aa × β)} {s:aa} {b:β} (ba:∀p,p∈left↔p=(s,b)\/p∈left') (hns:s∉af left') (x:aa):x∉af left'↔x=s\/x∉af left:=by
 rw [gY ba x];by_cases e:x=s
 · subst e;simp [hns]
 simp [e]
theorem Jz {β:Type} {left left':List (aa × β)} {s:aa} {b:β} (ba:∀p,p∈left↔p=(s,b)\/p∈left'):s∈af left:=(gY ba s).2 (.inl rfl)
def yq (n:Nat):Value:= .int .u8 n
structure mG (w:World) (m:Nat) (l:List (aa × Nat)) (P:aa->Nat->Prop):Prop where
 map:ah yq w m l
 get:∀x v,ai l x=some v↔P x v
theorem mG.iff {w:World} {m:Nat} {l:List (aa × Nat)} {P Q:aa->Nat->Prop} (h:mG w m l P) (hQ:∀x v,Q x v↔P x v):mG w m l Q:=⟨h.map,fun x v=>by rw [h.get,hQ]⟩
theorem mG.keep {w w':World} {m:Nat} {l:List (aa × Nat)} {P:aa->Nat->Prop} (h:mG w m l P) (hk:w'.heap[m]?=w.heap[m]?):mG w' m l P:=⟨h.map.keep hk,h.get⟩
theorem mG.put {w w':World} {m:Nat} {l:List (aa × Nat)} {P Q:aa->Nat->Prop} (h:mG w m l P) {s:aa} {n:Nat} (hM:ah yq w' m (bN l s n)) (h1:∀v,Q s v↔v=n) (h2:∀x v,x≠s->(Q x v↔P x v)):mG w' m (bN l s n) Q:=
 ⟨hM,fun x v=>by
  rw [bk];by_cases e:s=x
  · subst e;rw [if_pos rfl,h1];simp [eq_comm]
  rw [if_neg e,h2 x v (Ne.symm e),h.get]⟩
def tQ (p:Value × Value):Value:= .agg #[p.1,p.2]
theorem KY (n:Int) (w:World):(Instr.makeMap 91 (some (.int .i64 n))).run Tryz.prog w= .ok (.map (some w.heap.size)) (w.alloc (.map #[] 0)):=by kernel_rfl
theorem YL (w:World):(Instr.makeMap 92 none).run Tryz.prog w= .ok (.map (some w.heap.size)) (w.alloc (.map #[] 0)):=by kernel_rfl
theorem SE (w:World):(Instr.makeMap 165 none).run Tryz.prog w= .ok (.map (some w.heap.size)) (w.alloc (.map #[] 0)):=by kernel_rfl
theorem rU:(Tryz.prog.info? 94).map (·.size)=some 5:=by kernel_rfl
abbrev qa:Array Value:= #[.bool false, .slice none 0 0, .slice none 0 0, .map none, .map none]
theorem z4 (w:World):(zeroValue 4).run Tryz.prog w= .ok (.bool false) w:=by kernel_rfl
theorem z175 (w:World):(zeroValue 175).run Tryz.prog w= .ok (.agg #[.string ⟨#[]⟩, .nilIface]) w:=by kernel_rfl
theorem YM (w:World):(zeroValue 166).run Tryz.prog w= .ok (.int .u8 0) w:=by kernel_rfl
theorem YN (root:aa) (pm a b p d:Nat) (w:World):
 Calls Tryz.prog 34 #[.nilIface,Ss a b p d, .agg #[.string root, .map (some pm)]] w fun e w'=>e= .returned (.agg qa)/\Below w.heap.size w w':=by
 obtain ⟨W,hW,g0,g1,hs,hB⟩:=dO w (.cells #[.string root, .map (some pm)] 106) (.cells qa 94);have HW:=Y4 hW g1 hs hB;clear hW g0 g1 hs hB;go_enter func34,ntmps34;go_wp2;rw [show (w.alloc (.cells #[.string root, .map (some pm)] 106)).alloc (.cells #[.bool false, .slice none 0 0, .slice none 0 0, .map none, .map none] 94)=W from HW.out.1.symm];refine bodyPost_ret (df (p:=6) results34 _ W (w.heap.size+1) 94 qa (0,0) _ rfl HW.out.2.1 underlying94 rfl rU) rfl ?_;exact ⟨rfl,HW.out.2.2.2⟩
structure Gj (F:Nat->Prop) (w:World) (root:aa) (pm ib lo a b d:Nat) (PL:List (aa × fe)) (pks:List Pk) (ig rq ins:List aa) (lps:List iK) (ns os:List Nd) (La Lb:List (aa × (aa × Value))) (Lr:List (aa × Bool)) (lv:Value):Prop where
 pk:mC F w pm pks PL
 ig:uJ w lo ib ig
 lock:kL F w lv lps ins
 a:ah tq w a La
 na:iz F w ns La
 b:ah tq w b Lb
 nb:iz F w os Lb
 rq:dX w d Lr (· ∈rq)
 gl:Gl w
theorem kL.pure {F:Nat->Prop} {w w':World} {v:Value} {ls:List iK} {ins:List aa} (h:kL F w v ls ins) (hb:Below w.heap.size w w'):kL F w' v ls ins:=by
 obtain ⟨A,n,c,B,m,d,h1,h2,h3⟩:=h;exact ⟨A,n,c,B,m,d,h1,h2.pure hb,h3.pure hb⟩
theorem Gj.pure {F:Nat->Prop} {w w':World} {root:aa} {pm ib lo a b d:Nat} {PL:List (aa × fe)} {pks:List Pk} {ig rq ins:List aa} {lps:List iK} {ns os:List Nd} {La Lb:List (aa × (aa × Value))} {Lr:List (aa × Bool)} {lv:Value}
 (h:Gj F w root pm ib lo a b d PL pks ig rq ins lps ns os La Lb Lr lv) (hb:Below w.heap.size w w'):Gj F w' root pm ib lo a b d PL pks ig rq ins lps ns os La Lb Lr lv:=
 ⟨h.pk.pure hb,h.ig.pure hb,h.lock.pure hb,h.a.pure hb,h.na.step (.pure hb),h.b.pure hb,h.nb.step (.pure hb),h.rq.keep (hb.block _ h.rq.map.lt),h.gl.pure hb⟩
structure NJ (F:Nat->Prop) (w:World) (root:aa) (pks:List Pk) (ig rq ins:List aa) (lps:List iK) (ns os:List Nd):Prop where
 nd:(pks.map (·.path)).Nodup
 px:∀q∈pks,q.path.size<=1000000/\(∀x∈q.imps++q.tests,x.size<=1000000)/\q.imps.length+q.tests.length<=1000
 rt:root.size<=1000000
 pl:pks.length<=100
 ns:fJ ns
 os:fJ os
 lp:∀l∈lps,l.g.Lk/\l.g.Ok
 ln:lps.length<=1000
 i1:ins.length<=1000
 i2:∀x∈ins,x.size<=1000000
 r1:rq.length<=1000
 r2:∀x∈rq,x.size<=1000000
 fl:∀b,F b->b<w.heap.size
theorem gh (w:World) (p j:Nat) (v:Value):w.grownBy (w.setCell ⟨p,j,none⟩ v) (some p):=
 ⟨((Below.refl 0 w).setCell (Nat.zero_le _) v).os,((Below.refl 0 w).setCell (Nat.zero_le _) v).tape,((Below.refl 0 w).setCell (Nat.zero_le _) v).output,by simp,fun k _ hne=>heap_setCell_other w ⟨p,j,none⟩ k v (fun e=>hne (by rw [e]))⟩
structure Dy (p7 mc mo:Nat) (wb wr:World) (ks:List aa) (k:Nat) (PD:List (aa × Nat)) (vM vE:Value) (M E:List aa):Prop where
 om:Own aD wb.heap.size 9 (fun b=>vM.ownBlock=some b) wr vM M
 oe:Own aD wb.heap.size 9 (fun b=>vE.ownBlock=some b) wr vE E
 ne:∀j,vM.ownBlock=some j->vE.ownBlock≠some j
 row:av wr p7 #[.bool true,vM,vE, .map (some mc), .map (some mo)] 94
 chg:oN (· =p7) wb wr
 m:M=(ks.take k).filter (fun x=>decide (ai PD x=some 0))
 e:E=(ks.take k).filter (fun x=> !decide (ai PD x=some 0))
section
variable {p7 mc mo:Nat} {wb wr w7 w8:World} {ks:List aa} {k:Nat} {PD:List (aa × Nat)} {vM vE v':Value} {M E:List aa} {F':Nat->Prop} {x:aa}
theorem Dy.lt (h:Dy p7 mc mo wb wr ks k PD vM vE M E):(∀b,vM.ownBlock=some b->wb.heap.size<=b/\b<wr.heap.size)/\∀b,vE.ownBlock=some b->wb.heap.size<=b/\b<wr.heap.size:=
 ⟨fun b hb=>⟨(ak h.om hb).2.1,(ak h.om hb).2.2.1⟩,fun b hb=>⟨(ak h.oe hb).2.1,(ak h.oe hb).2.2.1⟩⟩
theorem Dy.len (h:Dy p7 mc mo wb wr ks k PD vM vE M E):M.length<=k/\E.length<=k:=by
 rw [h.m,h.e];exact ⟨Nat.le_trans (List.length_filter_le _ _) (by simp;omega),Nat.le_trans (List.length_filter_le _ _) (by simp;omega)⟩
theorem Dy.pushM (h:Dy p7 mc mo wb wr ks k PD vM vE M E) (hp:p7<wb.heap.size) (hk:ks[k]?=some x) (hx:ai PD x=some 0) (sF:Below wr.heap.size wr w7)
 (hO:Own aD wb.heap.size 9 F' w8 v' (M++ [x])) (hS:dw (fun b=>vM.ownBlock=some b) w7 F' w8) (hB:Below wb.heap.size w7 w8) (hG:w7.grownBy w8 vM.ownBlock):Dy p7 mc mo wb (w8.setCell ⟨p7,1,none⟩ v') ks (k+1) PD v' vE (M++ [x]) E:=by
 obtain ⟨lZ,hl2⟩:=h.lt;have hlt:k<ks.length:=(List.getElem?_eq_some_iff.1 hk).1;have hkx:ks[k]=x:=(List.getElem?_eq_some_iff.1 hk).2;have AQ:=h.chg.size;have hs7:=sF.size;have ke:=hG.size;have hoth:∀b,wb.heap.size<=b->(w8.setCell ⟨p7,1,none⟩ v').heap[b]?=w8.heap[b]?:=fun b hb=>heap_setCell_other _ ⟨p7,1,none⟩ b _ (by show b≠p7;omega)
 refine ⟨aX (F':=fun b=>v'.ownBlock=some b) (aX (F:=F') (F':=fun _=>True) hO (fun j _=>rfl) (fun _ _=>trivial)|>fun hq=>cV (aW hq) (fun j hj=>hj)) (fun j hj=>hoth j (ak hO hj).2.1) (fun _ q=>q),aX h.oe (fun j hj=> ?_) (fun _ q=>q),fun j hj=> ?_,heap_setCell_same _ _ 1 _ _ _ ((hB.block _ hp).trans ((sF.block _ (by omega)).trans h.row)),((h.chg.pure (sF.mono AQ)).pure hB).grown (gh _ _ _ _) (.inl rfl), ?_, ?_⟩
 · have h2:=hl2 j hj;rw [hoth j h2.1,hG.block j (by omega) (fun e=>h.ne j e.symm hj),sF.block j h2.2]
 · intro e;have h2:=hl2 j e;exact h.ne j (hS.old j (by omega) (bh hO hj)) e
 · rw [List.take_succ_eq_append_getElem hlt,List.filter_append,<-h.m,hkx];simp [hx]
 rw [List.take_succ_eq_append_getElem hlt,List.filter_append,<-h.e,hkx];simp [hx]
theorem Dy.pushE (h:Dy p7 mc mo wb wr ks k PD vM vE M E) (hp:p7<wb.heap.size) (hk:ks[k]?=some x) (hx:ai PD x≠some 0) (sF:Below wr.heap.size wr w7)
 (hO:Own aD wb.heap.size 9 F' w8 v' (E++ [x])) (hS:dw (fun b=>vE.ownBlock=some b) w7 F' w8) (hB:Below wb.heap.size w7 w8) (hG:w7.grownBy w8 vE.ownBlock):Dy p7 mc mo wb (w8.setCell ⟨p7,2,none⟩ v') ks (k+1) PD vM v' M (E++ [x]):=by
 obtain ⟨lZ,hl2⟩:=h.lt;have hlt:k<ks.length:=(List.getElem?_eq_some_iff.1 hk).1;have hkx:ks[k]=x:=(List.getElem?_eq_some_iff.1 hk).2;have AQ:=h.chg.size;have hs7:=sF.size;have ke:=hG.size;have hoth:∀b,wb.heap.size<=b->(w8.setCell ⟨p7,2,none⟩ v').heap[b]?=w8.heap[b]?:=fun b hb=>heap_setCell_other _ ⟨p7,2,none⟩ b _ (by show b≠p7;omega)
 refine ⟨aX h.om (fun j hj=> ?_) (fun _ q=>q),aX (F':=fun b=>v'.ownBlock=some b) (aX (F:=F') (F':=fun _=>True) hO (fun j _=>rfl) (fun _ _=>trivial)|>fun hq=>cV (aW hq) (fun j hj=>hj)) (fun j hj=>hoth j (ak hO hj).2.1) (fun _ q=>q),fun j hj=> ?_,heap_setCell_same _ _ 2 _ _ _ ((hB.block _ hp).trans ((sF.block _ (by omega)).trans h.row)),((h.chg.pure (sF.mono AQ)).pure hB).grown (gh _ _ _ _) (.inl rfl), ?_, ?_⟩
 · have h2:=lZ j hj;rw [hoth j h2.1,hG.block j (by omega) (fun e=>h.ne j hj e.symm),sF.block j h2.2]
 · intro e;have h2:=lZ j hj;exact h.ne j hj (hS.old j (by omega) (bh hO e))
 · rw [List.take_succ_eq_append_getElem hlt,List.filter_append,<-h.m,hkx];simp [hx]
 rw [List.take_succ_eq_append_getElem hlt,List.filter_append,<-h.e,hkx];simp [hx]
end
theorem rV {s:aa} (h:aV s=true):s≠ByteArray.empty/\s.size<=40:=by
 unfold aV at h;simp only [Bool.and_eq_true,decide_eq_true_eq] at h;refine ⟨fun e=> ?_,h.2⟩;rw [e] at h;exact absurd h.1.2 (by decide)
theorem oQ {F:Nat->Prop} {w:World} {ns:List Nd} {l:List (aa × (aa × Value))} (h:iz F w ns l) (r:aa):r∈af l↔r∈ns.map (·.root):=by
 rw [<-aF,List.mem_map];constructor
 · intro hs;obtain ⟨p,hp⟩:=Option.isSome_iff_exists.1 hs;obtain ⟨n,hn,he,_⟩:=h.get r p hp;exact ⟨n,hn,he⟩
 rintro ⟨n,hn,rfl⟩;obtain ⟨p,hp⟩:=h.has n hn;rw [hp];rfl
theorem yr {F:Nat->Prop} {w:World} {ns:List Nd} {l:List (aa × (aa × Value))} (h:iz F w ns l) (hn:fJ ns) (r:aa):(ai l r=none/\bI ns r=none)\/∃p n,ai l r=some p/\bI ns r=some n/\n.c.Ok/\fU F w p.2 n.c.g.1:=by
 cases hg:ai l r with
 | none=>
   left;refine ⟨rfl,rP.2 fun n hm e=> ?_⟩;have h1:=(oQ h r).2 (List.mem_map.2 ⟨n,hm,e⟩);rw [<-aF,hg] at h1
   cases h1
 | some p=>
   right;obtain ⟨n,hm,e,hc⟩:=h.get r p hg;exact ⟨p,n,rfl,by rw [<-e];exact C8 hn.nd hm,(hn.one n hm).ok,hc⟩
theorem yt (r s:aa) (w:World):(Instr.field 172 (.agg #[.string r, .string s]) 0).run Tryz.prog w= .ok (.string r) w:=by kernel_rfl
def JA (ns os:List Nd) (E:aa->Prop) (lps:List iK) (r:aa):Prop:=∃l∈lps,l.root=r/\bI os r=none/\(∃n,bI ns r=some n/\n.c.g.1.mat l.g=false)/\E r
structure NK (mc mo:Nat) (wb wr:World) (ns os:List Nd) (E:aa->Prop) (lps:List iK) (LC LO:List (aa × (Value × Value))):Prop where
 c:ah tQ wr mc LC
 o:ah tQ wr mo LO
 kc:∀r,r∈af LC↔JA ns os E lps r
 ko:∀r,r∈af LO↔G6 os lps r
 chg:oN (fun b=>b=mc\/b=mo) wb wr
structure yu (root:aa) (ig:List aa) (pks:List Pk) (rq ins:List aa) (ns os:List Nd) (lps:List iK) (M E UC UO:List aa):Prop where
 ms:M.Pairwise iC
 m:∀x,x∈M↔NC root ig pks rq x/\x∉ins
 es:E.Pairwise iC
 e:∀x,x∈E↔x∈ins/\¬NC root ig pks rq x
 c:∀r,r∈UC↔YC ns os (NC root ig pks rq) lps r
 o:∀r,r∈UO↔G6 os lps r
theorem JB {root:aa} {ig:List aa} {pks:List Pk} {rq ins:List aa} {ns os:List Nd} {lps:List iK} {R M E UC UO ks:List aa} {LI Le:List (aa × Bool)} {PD:List (aa × Nat)} (hI:∀x,NC root ig pks rq x↔x∈af LI) (hK:KeysOf PD ks)
 (hD:∀x v,ai PD x=some v↔(v=0/\x∈af LI/\x∉ins)\/(v=1/\x∈ins/\¬x∈af LI)) (hm:M=ks.filter (fun x=>decide (ai PD x=some 0))) (he:E=ks.filter (fun x=> !decide (ai PD x=some 0)))
 (hE:rR R LI [] Le) (hR:∀r,r∈R↔r∈ns.map (·.root)) (kc:∀r,r∈UC↔JA ns os (· ∈af Le) lps r) (ko:∀r,r∈UO↔G6 os lps r):yu root ig pks rq ins ns os lps M E UC UO where
 ms:=by rw [hm];exact hK.1.filter _
 es:=by rw [he];exact hK.1.filter _
 m:=fun x=>by
  rw [hm,List.mem_filter,decide_eq_true_eq,hD,hI];constructor
  · rintro ⟨_,h|h⟩
    · exact h.2
    exact absurd h.1 (by decide)
  intro h;exact ⟨(hK.2 x).2 (aF.1 (by rw [(hD x 0).2 (.inl ⟨rfl,h⟩)];rfl)), .inl ⟨rfl,h⟩⟩
 e:=fun x=>by
  rw [he,List.mem_filter,Bool.not_eq_true',decide_eq_false_iff_not,hI];constructor
  · rintro ⟨h1,h2⟩;obtain ⟨v,hv⟩:=Option.isSome_iff_exists.1 (aF.2 ((hK.2 x).1 h1));rcases (hD x v).1 hv with h|h
    · rw [hv,h.1] at h2;exact absurd rfl h2
    exact h.2
  intro h;have h1:=(hD x 1).2 (.inr ⟨rfl,h⟩);exact ⟨(hK.2 x).2 (aF.1 (by rw [h1];rfl)),by rw [h1];simp⟩
 c:=fun r=>by
  rw [kc];unfold JA YC
  have h1:r∈af Le↔∃s,NC root ig pks rq s/\longest (ns.map (·.root)) s=r/\r≠ByteArray.empty:=by
   rw [hE.key];constructor
   · rintro ⟨x,a1,_,a3⟩;exact ⟨x,(hI x).2 a1,by rw [<-pF hR];exact a3⟩
   rintro ⟨x,a1,a3⟩;exact ⟨x,(hI x).1 a1,by simp [af],by rw [pF hR];exact a3⟩
  simp only [h1]
 o:=ko
def AG (F:Nat->Prop) (root:aa) (ig:List aa) (pks:List Pk) (rq ins:List aa) (ns os:List Nd) (lps:List iK) (w:World) (e:Ending) (w':World):Prop:=
 ∃(A1 A2:Option Addr) (c1 c2 mc mo:Nat) (M E:List aa) (LC LO:List (aa × (Value × Value))),e= .returned (.agg #[.bool true, .slice A1 M.length c1, .slice A2 E.length c2, .map (some mc), .map (some mo)])/\bK F w' (.slice A1 M.length c1) M/\bK F w' (.slice A2 E.length c2) E/\ah tQ w' mc LC/\ah tQ w' mo LO/\
  Below w.heap.size w w'/\(M.length<=1000000/\E.length<=1000000/\LC.length<=1000000/\LO.length<=1000000)/\(bg root ig pks->yu root ig pks rq ins ns os lps M E (af LC) (af LO))
theorem YO {F:Nat->Prop} {root:aa} {ig:List aa} {pks:List Pk} {rq ins:List aa} {ns os:List Nd} {lps:List iK} {w:World} {e:Ending} {w':World} {A1 A2:Option Addr} {c1 c2 mc mo:Nat} {M E:List aa} {LC LO:List (aa × (Value × Value))} (h:e= .returned (.agg #[.bool true, .slice A1 M.length c1, .slice A2 E.length c2, .map (some mc), .map (some mo)])) (h1:bK F w' (.slice A1 M.length c1) M) (h2:bK F w' (.slice A2 E.length c2) E) (h3:ah tQ w' mc LC) (h4:ah tQ w' mo LO)
 (h5:Below w.heap.size w w') (h6:M.length<=1000000/\E.length<=1000000/\LC.length<=1000000/\LO.length<=1000000) (h7:bg root ig pks->yu root ig pks rq ins ns os lps M E (af LC) (af LO)):AG F root ig pks rq ins ns os lps w e w':=⟨A1,A2,c1,c2,mc,mo,M,E,LC,LO,h,h1,h2,h3,h4,h5,h6,h7⟩
theorem C9 {β:Type} {L:List (aa × β)} {P:aa->β->List aa->Prop} (h:∀t ie,ai L t=some ie->∃S,P t ie S):∃Sx:aa->List aa,∀t ie,ai L t=some ie->P t ie (Sx t):=by
 classical
 refine ⟨fun t=>if hh:∃S ie,ai L t=some ie/\P t ie S then Classical.choose hh else [],fun t ie ht=> ?_⟩;obtain ⟨S,hS⟩:=h t ie ht;have hh:∃S ie,ai L t=some ie/\P t ie S:=⟨S,ie,ht,hS⟩;show P t ie (dite _ _ _);rw [dif_pos hh];obtain ⟨ie',h1,h2⟩:=Classical.choose_spec hh;rw [ht] at h1;rw [Option.some.inj h1];exact h2
theorem Gk {β:Type} {root:aa} {ig:List aa} {pks:List Pk} {L:List (aa × β)} {Sx:aa->List aa} (nd:(pks.map (·.path)).Nodup) (h1:∀t ie,ai L t=some ie->∃q,fL ig pks t q) (h2:∀t q,fL ig pks t q->∃ie,ai L t=some ie) (h3:∀t ie,ai L t=some ie->∀x,x∈Sx t↔iR root ig pks t x) (x:aa):
 (∃t ie,ai L t=some ie/\hidden t=false/\x∈Sx t/\cW x.data.toList=false)↔xY root ig pks x/\cW x.data.toList=false:=by
 constructor
 · rintro ⟨t,ie,a1,a2,a3,a4⟩;obtain ⟨q,hq⟩:=h1 t ie a1;obtain ⟨e,hm⟩:=cD hq.1;exact ⟨⟨q,hm,hq.2,by rw [e];exact a2,by rw [e];exact (h3 t ie a1 x).1 a3⟩,a4⟩
 rintro ⟨⟨q,hm,b1,b2,b3⟩,b4⟩;obtain ⟨ie,CX⟩:=h2 q.path q ⟨yl nd hm,b1⟩;exact ⟨q.path,ie,CX,b2,(h3 _ ie CX x).2 b3,b4⟩
theorem mH {pks:List Pk} {B:Nat} (h:∀q∈pks,∀x∈q.imps++q.tests,x.size<=B) {x:aa} (hx:x∈bT pks):x.size<=B:=by
 unfold bT at hx;obtain ⟨q,hq,hx⟩:=List.mem_flatMap.1 hx;exact h q hq x hx
abbrev UN (root:aa) (pm n:Nat):List Obj:= [.cells #[.string root, .map (some pm)] 106, .cells qa 94, .map #[] 0, .map #[] 0, .cells #[.bool true, .slice none 0 0, .slice none 0 0, .map (some (n+1+1+1)), .map (some (n+1+1))] 94]
theorem f34 {F:Nat->Prop} (root:aa) (pm ib lo a b d:Nat) (PL:List (aa × fe)) (pks:List Pk) (ig rq ins:List aa) (lps:List iK) (ns os:List Nd) (La Lb:List (aa × (aa × Value))) (Lr:List (aa × Bool)) (lv:Value) (w:World)
 (hIn:Gj F w root pm ib lo a b d PL pks ig rq ins lps ns os La Lb Lr lv) (pD:NJ F w root pks ig rq ins lps ns os):
 Calls Tryz.prog 34 #[lv, .iface 179 (.agg #[.map (some a), .map (some b), .pointer (some ⟨ib,0,none⟩), .map (some d)]), .agg #[.string root, .map (some pm)]] w (AG F root ig pks rq ins ns os lps w):=by
 obtain ⟨pA,pn,pc,iA,im,ic,rfl,Bw,OP⟩:=id hIn.lock;obtain ⟨hpe,hp1,hp2⟩:=Bw.bound;obtain ⟨CX,hi1,hi2⟩:=OP.bound;subst hpe CX;have rO:=Y0 hIn;have dU:=Y0 pD;have HLk:=Y2 Bw OP;have m1:=KY;have m2:=YL;have m3:=SE;clear hIn pD Bw OP;obtain ⟨W0,hW0⟩:∃W,W=dE w (UN root pm w.heap.size):=⟨_,rfl⟩;have hs0:W0.heap.size=w.heap.size+5:=by rw [hW0,eH];rfl
 have yR:Hid (Below w.heap.size w W0):=Y0 (by rw [hW0];exact dI _ _);have NL:Hid (∀i o,(UN root pm w.heap.size)[i]?=some o->W0.heap[w.heap.size+i]?=some o):=Y0 (by rw [hW0];exact fq _ _);have Ed:=Y2 hW0 hs0;clear hW0 hs0;go_enter func34,ntmps34;have flag:True:=trivial
 go_wp2_with (first
  | (clear flag;go_at_call 259;change Calls Tryz.prog 259 _ (dE w (UN root pm w.heap.size)) _;rw [<-Ed.out.1];refine (f259 a b ib d W0).mono ?_;rintro e w1 ⟨rfl,az⟩;have H1:=Y0 az;clear az;have aj:True:=trivial)
  | (clear aj;go_at_call 261;refine (f261 a b ib d w1).mono ?_;rintro e w2 ⟨rfl,cZ⟩;have H2:=Y0 (H1.out.trans (cZ.mono H1.out.size));have UQ:=Y0 (yR.out.trans (H2.out.mono yR.out.size));have c0:w2.cell? ⟨w.heap.size,0,none⟩=some (.string root):=ae ((H2.out.block _ (by have:=Ed.out.2;omega)).trans (NL.out 0 _ rfl)) rfl;have c1:w2.cell? ⟨w.heap.size,1,none⟩=some (.map (some pm)):=ae ((H2.out.block _ (by have:=Ed.out.2;omega)).trans (NL.out 0 _ rfl)) rfl;clear cZ;have au:True:=trivial)
  | (clear au;go_at_call 66;refine (f66 (F:=F) root pm ib lo PL pks ig w2 (rO.out.pk.pure UQ.out) (rO.out.ig.pure UQ.out) dU.out.nd dU.out.px dU.out.rt dU.out.pl (fun b hb=>Nat.lt_of_lt_of_le (dU.out.fl b hb) UQ.out.size)).mono ?_;rintro e w3 ⟨rm,em,L,rfl,RZ,bb,nJ,hL3,hA3⟩;obtain ⟨Sx,hSx⟩:=C9 (P:=fun t (ie:Value × Value) S=>bK F w3 ie.2 S/\(∀x∈S,x∈bT pks)/\(bg root ig pks->∀x,x∈S↔iR root ig pks t x)) (fun t ie h=>(hL3 t ie h).2.2);have H3:=Y5 (H2.out.trans (bb.mono H2.out.size)) nJ hL3 hA3 hSx;have H3':=Y0 (yR.out.trans (H3.out.1.mono yR.out.size));clear RZ bb nJ hL3 hA3 hSx;have aQ:True:=trivial)
  | (clear aQ;go_at_call 67;refine (f67 (F:=F) rm L Sx (bT pks) w3 H3.out.2.1 (fun t ie h=>⟨(H3.out.2.2.1 t ie h).2.1,(H3.out.2.2.2.2 t ie h).1,by obtain ⟨q,hq⟩:=(H3.out.2.2.1 t ie h).1;obtain ⟨e,hm⟩:=cD hq.1;rw [<-e];exact (dU.out.px q hm).1⟩) (fun t ie h x hx=>⟨(H3.out.2.2.2.2 t ie h).2.1 x hx,mH (fun q hq=>(dU.out.px q hq).2.1) ((H3.out.2.2.2.2 t ie h).2.1 x hx)⟩) (by have h1:=iX (fun q hq=>(dU.out.px q hq).2.2);have h2:=dU.out.pl;omega) (fun b hb=>Nat.lt_of_lt_of_le (dU.out.fl b hb) H3'.out.size)).mono ?_;rintro e w4 ⟨vx,xs,rfl,hrx,hxs,hxl,hB4⟩;obtain ⟨xA,xc,rfl⟩:=hrx.form;have H4:=Y5 (H3.out.1.trans (hB4.mono H3.out.1.size)) hrx (fun hN x=>(hxs x).trans (Gk dU.out.nd (fun t ie h=>(H3.out.2.2.1 t ie h).1) H3.out.2.2.2.1 (fun t ie h=>(H3.out.2.2.2.2 t ie h).2.2 hN) x):bg root ig pks->∀x,x∈xs↔xY root ig pks x/\cW x.data.toList=false) hxl (fun x hx=>by obtain ⟨t,ie,a1,_,a3,_⟩:=(hxs x).1 hx;exact mH (fun q hq=>(dU.out.px q hq).2.1) ((H3.out.2.2.2.2 t ie a1).2.1 x a3):∀x∈xs,x.size<=1000000);have H4':=Y0 (yR.out.trans (H4.out.1.mono yR.out.size));clear hrx hxs hxl hB4;have cf:True:=trivial)
  | (clear cf;go_at_call 267;refine (f267 _ _ _ _ _ _ w4).mono ?_;rintro e w5 ⟨rfl,bz⟩;have H5:=Y0 (H4.out.1.trans (bz.mono H4.out.1.size));have H5x:=Y0 (H4.out.2.1.pure bz);have UR:=Y0 (yR.out.trans (H5.out.mono yR.out.size));have hM5:=Y0 ((rO.out.pure UR.out).rq.map.pure (((Below.refl _ _).alloc (Nat.le_refl _) (.map #[] 0))));clear bz;have ft:True:=trivial)
  | (clear ft;refine ez (o:=⟨some 63,_,_,_,_,_⟩) rfl _ _ rfl _ _ underlying91 rfl hM5.out ?_;go_frame))
 obtain ⟨wa,M4⟩:∃W,W=dE w5 [.map #[] 0, .map #[] 0, .map #[] 0]:=⟨_,rfl⟩;have hsa:wa.heap.size=w5.heap.size+3:=by rw [M4,eH];rfl
 have HBa:Hid (Below w5.heap.size w5 wa):=Y0 (by rw [M4];exact dI _ _);have UT:Hid (∀i o,([.map #[] 0, .map #[] 0, .map #[] 0]:List Obj)[i]?=some o->wa.heap[w5.heap.size+i]?=some o):=Y0 (by rw [M4];exact fq _ _);rw [show ((w5.alloc (.map #[] 0)).alloc (.map #[] 0)).alloc (.map #[] 0)=wa from M4.symm];have YP:Hid (Below W0.heap.size W0 w5):=Y0 H5.out;have CM:Hid (Below w.heap.size w w5):=Y0 UR.out;have UU:=Y0 (rO.out.pure UR.out);have NH:=Y4 H5x.out H4.out.2.2.1 H4.out.2.2.2.1 H4.out.2.2.2.2
 have SF:∀i o,(UN root pm w.heap.size)[i]?=some o->w5.heap[w.heap.size+i]?=some o:=fun i o h=>(YP.out.block _ (by
  have h1:i<5:=(List.getElem?_eq_some_iff.1 h).1;have:=Ed.out.2;omega)).trans (NL.out i o h)
 have oa:Hid (av w5 (w.heap.size+1+1+1+1) #[.bool true, .slice none 0 0, .slice none 0 0, .map (some (w.heap.size+1+1+1)), .map (some (w.heap.size+1+1))] 94/\av w5 (w.heap.size+1) qa 94/\ah tQ w5 (w.heap.size+1+1+1) []/\ah tQ w5 (w.heap.size+1+1) []):=Y0 ⟨SF 4 _ rfl,SF 1 _ rfl,iG _ (SF 3 _ rfl),iG _ (SF 2 _ rfl)⟩;have YQ:Hid (ah aO wa w5.heap.size []/\ah aO wa (w5.heap.size+1) []/\ah yq wa (w5.heap.size+1+1) []):=Y0 ⟨iG _ (UT.out 0 _ rfl),iG _ (UT.out 1 _ rfl),iG _ (UT.out 2 _ rfl)⟩;have hNM:w.heap.size+5<=w5.heap.size:=by rw [<-Ed.out.2];exact H5.out.size
 have hF5:Hid (∀b,F b->b<w5.heap.size):=Y0 fun b hb=>by have:=dU.out.fl b hb;omega
 clear M4 SF c0 c1 m1 m2 m3 H1 H2 UQ H3 H3' H4 H4' H5 UR H5x hM5 NL yR UT Ed;have Uw:=z4;have hxl:xs.length<=100000:=NH.out.2.2.1;have hil:ins.length<=1000:=dU.out.i1;go_loopw [69] (fun i wr=>∃(k:Nat) (LI:List (aa × Bool)),i= .int .i64 k/\k<=xs.length/\Hid (dX wr (w5.heap.size+1) LI (· ∈xs.take k)/\ah aO wr w5.heap.size []/\ah yq wr (w5.heap.size+1+1) []/\Below w5.heap.size w5 wr/\w5.heap.size+3<=wr.heap.size)) (fun i _=>xs.length - (intOf i).toNat)
 case atStart=>exact ⟨0, [],rfl,by omega,Y0 ⟨dX.none YQ.out.2.1 (fun x h=>by simp at h),YQ.out.1,YQ.out.2.2,HBa.out,by omega⟩⟩
 obtain ⟨k,LI,rfl,hk,hc⟩:=hrel;by_cases hlt:k<xs.length
 · have hlt':(k:Int)<(xs.length:Int):=by omega
   obtain ⟨g,off,rfl,-,hg,hx⟩:=(NH.out.1.pure hc.out.2.2.2.1).at1 hlt;have htk:Hid (∀y,y∈xs.take (k+1)↔y=xs[k]\/y∈xs.take k):=Y0 fun y=>by rw [List.take_succ_eq_append_getElem hlt,List.mem_append,List.mem_singleton,or_comm]
   generalize xs[k]=x at*;go_wp2_with (refine aM (f:=aO) (b:=true) rfl _ _ _ 91 rfl _ _ underlying91 underlying9 rfl hc.out.1.map rfl rfl ?_;intro w2 yb oz hs2;have H2:=Y3 yb oz hs2;clear yb oz hs2;go_frame);go_roundw
   case rel=>exact ⟨k+1,_,by go_num,by omega,Y0 ⟨hc.out.1.put H2.out.1 htk.out,hc.out.2.1.grown H2.out.2.1 (by intro e;injection e with e;omega),hc.out.2.2.1.grown H2.out.2.1 (by intro e;injection e with e;omega),hc.out.2.2.2.1.trans (Below.of_grown H2.out.2.1 (fun j hj=>by injection hj with hj;omega) (by have:=hc.out.2.2.2.2;omega)),by have:=H2.out.2.2;have:=hc.out.2.2.2.2;omega⟩⟩
   simp [intOf];omega
 have hlt':¬(k:Int)<(xs.length:Int):=by omega
 have hkl:xs.take k=xs:=List.take_of_length_le (by omega);have hc1:=hc.out;rw [hkl] at hc1;have qq:=Y0 hc1;clear hc1 hkl hc;have flag:True:=trivial;go_wp2_with (clear flag;refine bp (o:=⟨some 77,_,_,_,_,_⟩) rfl _ _ rfl _ _ underlying91 rfl (UU.out.rq.map.pure qq.out.2.2.2.1) ?_;intro w6 uQ eQ iO;have H6:=Y3 uQ eQ iO;clear uQ eQ iO;go_frame);obtain ⟨it,hit⟩:∃i,i=wr.heap.size:=⟨_,rfl⟩;rw [<-hit];have h6:=H6.out;have E7:=qq.out.2.2.2.2;rw [<-hit] at h6 E7;have H7:Hid (aL aO w6 d it Lr Lr/\dX w6 (w5.heap.size+1) LI (· ∈xs)/\ah aO w6 w5.heap.size []/\ah yq w6 (w5.heap.size+1+1) []/\Below w5.heap.size w5 w6):=Y0 ⟨h6.1,qq.out.1.keep (h6.2.1.block _ (by omega)),qq.out.2.1.keep (h6.2.1.block _ (by omega)),qq.out.2.2.1.keep (h6.2.1.block _ (by omega)),qq.out.2.2.2.1.trans (h6.2.1.mono (by omega))⟩;have iO:w6.heap.size=it+1:=h6.2.2;clear h6 hit H6 qq;go_loopw [18] (fun _ wq=>∃(left LI:List (aa × Bool)),Hid (aL aO wq d it Lr left/\dX wq (w5.heap.size+1) LI (fun x=>x∈xs\/(x∈rq/\x∉af left))/\ah aO wq w5.heap.size []/\ah yq wq (w5.heap.size+1+1) []/\Below w5.heap.size w5 wq)) (fun _ wq=>gz wq it)
 case atStart=>exact ⟨Lr,LI,Y0 ⟨H7.out.1,H7.out.2.1.iff (fun x=>⟨fun h=>by rcases h with h|⟨h1,h2⟩;exact h;exact absurd ((UU.out.rq.key x).2 h1) h2, .inl⟩),H7.out.2.2.1,H7.out.2.2.2.1,H7.out.2.2.2.2⟩⟩
 obtain ⟨left,LI,hd⟩:=hrel
 cases left with
 | cons pr eX=>
   have aU:True:=trivial
   go_wp2_with (first
    | (clear aU;refine ay (o:=⟨some 78,_,_,_,_,_⟩) rfl _ rfl rfl hd.out.1 (by intro h;cases h) ?_;intro s2 b2 left' w2' hmem hget eI ba hlen hns hg2 hs2 hent;have bO:=Y7 eI ba hlen hg2 ((UU.out.rq.key s2).1 (aF.1 (by rw [hget];rfl))) hns hs2;have mO:=Y0 (hd.out.2.1.map.grown hg2 (by intro e;injection e with e;omega));clear hmem hget eI ba hlen hns hg2 hs2;have dh:True:=trivial;go_frame)
    | (clear dh;refine aM (f:=aO) (b:=true) rfl _ _ _ 91 rfl _ _ underlying91 underlying9 rfl mO.out rfl rfl ?_;intro w3 nJ gD hs3;have H3:=Y3 nJ gD hs3;clear nJ gD hs3;go_frame))
   have Da:=hd.out.1.lt;have Au:=bO.out.1.grown H3.out.2.1 (by intro e;injection e with e;have:=UU.out.rq.map.lt;omega) (by intro e;injection e with e;omega);refine ⟨⟨left',_,Y0 ⟨Au,hd.out.2.1.put H3.out.1 (fun x=> ?_),(hd.out.2.2.1.grown bO.out.2.2.2.1 (by intro e;injection e with e;omega)).grown H3.out.2.1 (by intro e;injection e with e;omega),(hd.out.2.2.2.1.grown bO.out.2.2.2.1 (by intro e;injection e with e;omega)).grown H3.out.2.1 (by intro e;injection e with e;omega),(hd.out.2.2.2.2.trans (Below.of_grown bO.out.2.2.2.1 (fun j hj=>by injection hj with hj;omega) (by omega))).trans (Below.of_grown H3.out.2.1 (fun j hj=>by injection hj with hj;omega) (by have:=bO.out.2.2.2.2.2.2;omega))⟩⟩,by rw [aG Au,aG hd.out.1];have:=bO.out.2.2.1;omega⟩;have h1:=gZ bO.out.2.1 bO.out.2.2.2.2.2.1 x;rw [h1];constructor
   · rintro (h|⟨h2,rfl|h3⟩)
     · exact .inr (.inl h)
     · exact .inl rfl
     exact .inr (.inr ⟨h2,h3⟩)
   rintro (rfl|h|⟨h2,h3⟩)
   · exact .inr ⟨bO.out.2.2.2.2.1, .inl rfl⟩
   · exact .inl h
   exact .inr ⟨h2, .inr h3⟩
 | nil=>
   have Da:=hd.out.1.lt;have HT:Hid (dX wr (w5.heap.size+1) LI (fun x=>x∈xs\/x∈rq)/\ah aO wr w5.heap.size []/\ah yq wr (w5.heap.size+1+1) []/\Below w5.heap.size w5 wr/\w5.heap.size+3<=wr.heap.size):=Y0 ⟨hd.out.2.1.iff (fun x=>by simp [af]),hd.out.2.2.1,hd.out.2.2.2.1,hd.out.2.2.2.2,by omega⟩;have aU:True:=trivial
   go_wp2_with (first
    | (clear aU;refine ay (o:=⟨some 78,_,_,_,_,_⟩) rfl _ rfl rfl hd.out.1 ?_ (by intro y2 b2 left' w2 hmem;cases hmem);intro _;have dh:True:=trivial;go_frame)
    | (clear dh;go_at_call 267;refine (f267 _ _ _ _ _ _ wr).mono ?_;rintro e w7 ⟨rfl,iV⟩;have H8:Hid (dX w7 (w5.heap.size+1) LI (fun x=>x∈xs\/x∈rq)/\ah aO w7 w5.heap.size []/\ah yq w7 (w5.heap.size+1+1) []/\Below w5.heap.size w5 w7/\w5.heap.size+3<=w7.heap.size):=Y0 (by have h1:=HT.out.2.2.2.2;have h2:=iV.size;exact ⟨HT.out.1.keep (iV.block _ (by omega)),HT.out.2.1.pure iV,HT.out.2.2.1.pure iV,HT.out.2.2.2.1.trans (iV.mono (by omega)),by omega⟩);clear iV))
   clear hd HT Da iO E7 H7;go_loopw [87] (fun i wr=>∃(k:Nat) (LK:List (aa × Bool)),i= .int .i64 k/\k<=ins.length/\Hid (dX wr w5.heap.size LK (· ∈ins.take k)/\dX wr (w5.heap.size+1) LI (fun x=>x∈xs\/x∈rq)/\ah yq wr (w5.heap.size+1+1) []/\Below w5.heap.size w5 wr/\w5.heap.size+3<=wr.heap.size)) (fun i _=>ins.length - (intOf i).toNat)
   case atStart=>exact ⟨0, [],rfl,by omega,Y0 ⟨dX.none H8.out.2.1 (fun x h=>by simp at h),H8.out.1,H8.out.2.2.1,H8.out.2.2.2.1,H8.out.2.2.2.2⟩⟩
   obtain ⟨k,LK,rfl,hk,hc⟩:=hrel;by_cases hlt:k<ins.length
   · have hlt':(k:Int)<(ins.length:Int):=by omega
     obtain ⟨g,off,rfl,-,hg,hx⟩:=((HLk.out.2.pure CM.out).pure hc.out.2.2.2.1).at1 hlt;have htk:Hid (∀y,y∈ins.take (k+1)↔y=ins[k]\/y∈ins.take k):=Y0 fun y=>by rw [List.take_succ_eq_append_getElem hlt,List.mem_append,List.mem_singleton,or_comm]
     generalize ins[k]=x at*;go_wp2_with (refine aM (f:=aO) (b:=true) rfl _ _ _ 91 rfl _ _ underlying91 underlying9 rfl hc.out.1.map rfl rfl ?_;intro w2 yb oz hs2;have H2:=Y3 yb oz hs2;clear yb oz hs2;go_frame);go_roundw
     case rel=>exact ⟨k+1,_,by go_num,by omega,Y0 ⟨hc.out.1.put H2.out.1 htk.out,hc.out.2.1.keep (H2.out.2.1.block _ (by have:=hc.out.2.2.2.2;omega) (by intro e;injection e with e;omega)),hc.out.2.2.1.grown H2.out.2.1 (by intro e;injection e with e;omega),hc.out.2.2.2.1.trans (Below.of_grown H2.out.2.1 (fun j hj=>by injection hj with hj;omega) (by have:=hc.out.2.2.2.2;omega)),by have:=H2.out.2.2;have:=hc.out.2.2.2.2;omega⟩⟩
     simp [intOf];omega
   have hlt':¬(k:Int)<(ins.length:Int):=by omega
   have hkl:ins.take k=ins:=List.take_of_length_le (by omega);have hc1:=hc.out;rw [hkl] at hc1;have qq:=Y0 hc1;clear hc1 hkl hc;have flag:True:=trivial;go_wp2_with (clear flag;refine bp (o:=⟨some 95,_,_,_,_,_⟩) rfl _ _ rfl _ _ underlying91 rfl qq.out.2.1.map ?_;intro w6 uQ eQ iO;have H6:=Y3 uQ eQ iO;clear uQ eQ iO;go_frame);obtain ⟨KR,hit⟩:∃i,i=wr.heap.size:=⟨_,rfl⟩;rw [<-hit];have h6:=H6.out;have E7:=qq.out.2.2.2.2;rw [<-hit] at h6 E7;have H7:Hid (aL aO w6 (w5.heap.size+1) KR LI LI/\dX w6 w5.heap.size LK (· ∈ins)/\(∀x,x∈af LI↔x∈xs\/x∈rq)/\ah yq w6 (w5.heap.size+1+1) []/\Below w5.heap.size w5 w6/\∀t v,ai LI t=some v->v=true):=Y0 ⟨h6.1,qq.out.1.keep (h6.2.1.block _ (by omega)),qq.out.2.1.key,qq.out.2.2.1.keep (h6.2.1.block _ (by omega)),qq.out.2.2.2.1.trans (h6.2.1.mono (by omega)),qq.out.2.1.val⟩;have iO:w6.heap.size=KR+1:=h6.2.2;clear h6 hit H6 qq
   have hl0:LI.length<=200000:=by
    have h1:=bQ H7.out.1.map.nodup (m:=xs++rq) (fun x hx=>List.mem_append.2 ((H7.out.2.2.1 x).1 hx));have h2:=dU.out.r1;simp [af] at h1;omega
   have KW:=YM;go_loopw [21] (fun _ wq=>∃(left G9:List (aa × Bool)) (PD:List (aa × Nat)),Hid (aL aO wq (w5.heap.size+1) KR LI left/\dX wq w5.heap.size G9 (fun x=>x∈ins/\¬(x∈af LI/\x∉af left))/\mG wq (w5.heap.size+1+1) PD (fun x v=>v=0/\x∈af LI/\x∉af left/\x∉ins)/\Below w5.heap.size w5 wq)) (fun _ wq=>gz wq KR)
   case atStart=>exact ⟨LI,LK, [],Y0 ⟨H7.out.1,H7.out.2.1.iff (fun x=>⟨fun h=>h.1,fun h=>⟨h,fun h2=>h2.2 h2.1⟩⟩),⟨H7.out.2.2.2.1,fun x v=>⟨fun h=>(by cases h),fun h=>absurd h.2.1 h.2.2.1⟩⟩,H7.out.2.2.2.2.1⟩⟩
   obtain ⟨left,G9,PD,hd⟩:=hrel;have Da:=hd.out.1.lt
   cases left with
   | cons pr eX=>
     have aU:True:=trivial
     go_wp2_with (first
      | (clear aU;refine ay (o:=⟨some 96,_,_,_,_,_⟩) rfl _ rfl rfl hd.out.1 (by intro h;cases h) ?_;intro s2 b2 left' w2' hmem hget eI ba hlen hns hg2 hs2 hent;have bO:=Y7 eI ba hlen hg2 (aF.1 (by rw [hget];rfl)) hns hs2;have mO:=Y0 (hd.out.2.1.keep (hg2.block _ (by omega) (by intro e;injection e with e;omega)));have UW:=Y0 (hd.out.2.2.1.keep (hg2.block _ (by omega) (by intro e;injection e with e;omega)));have bz:=Y0 (hd.out.2.2.2.trans (Below.of_grown hg2 (fun j hj=>by injection hj with hj;omega) (by omega)));clear hmem hget eI ba hlen hns hg2 hs2;by_cases SG:s2∈ins<;>have hlk:=Y0 SG<;>clear SG<;>have dh:True:=trivial<;>go_frame)
      | (clear dh;refine bL (o:=⟨some 102,_,_,_,_,_⟩) (f:=aO) rfl _ _ 91 rfl _ _ underlying91 underlying9 (.bool false) Uw rfl mO.out.map rfl ?_;first|(rw [mO.out.yes ⟨hlk.out,fun h=>h.2 (Jz bO.out.2.1)⟩];have jh:True:=trivial;go_frame)|(rw [mO.out.no (fun h=>hlk.out h.1)];have rK:True:=trivial;go_frame))
      | (clear jh;refine yY (f:=aO) rfl _ _ 91 9 rfl _ _ underlying91 underlying9 rfl mO.out.map rfl ?_;intro w3 nJ gD hs3;have H3:=Y3 nJ gD hs3;clear nJ gD hs3;go_frame)
      | (clear rK;refine aM (f:=yq) (b:=0) rfl _ _ _ 165 rfl _ _ underlying165 underlying9 rfl UW.out.map rfl rfl ?_;intro w3 nJ gD hs3;have H3:=Y3 nJ gD hs3;clear nJ gD hs3;go_frame))
     · have Au:=bO.out.1.grown H3.out.2.1 (by intro e;injection e with e;omega) (by intro e;injection e with e;omega);refine ⟨⟨left',_,PD,Y0 ⟨Au,hd.out.2.1.del H3.out.1 (fun x=> ?_),(UW.out.keep (H3.out.2.1.block _ (by have:=bO.out.2.2.2.2.2.2;omega) (by intro e;injection e with e;omega))).iff (fun x v=> ?_),bz.out.trans (Below.of_grown H3.out.2.1 (fun j hj=>by injection hj with hj;omega) (by have:=bO.out.2.2.2.2.2.2;omega))⟩⟩,by rw [aG Au,aG hd.out.1];have:=bO.out.2.2.1;omega⟩
       · have h1:=gZ bO.out.2.1 bO.out.2.2.2.2.2.1 x;rw [h1];constructor
         · rintro ⟨a1,a2⟩;have hne:x≠s2:=fun e=>a2 ⟨by rw [e];exact bO.out.2.2.2.2.1, .inl e⟩
           exact ⟨hne,a1,fun h=>a2 ⟨h.1, .inr h.2⟩⟩
         rintro ⟨a1,a2,a3⟩;exact ⟨a2,fun h=>by rcases h.2 with h2|h2;exact a1 h2;exact a3 ⟨h.1,h2⟩⟩
       have h1:=gZ bO.out.2.1 bO.out.2.2.2.2.2.1 x;rw [h1];constructor
       · rintro ⟨a1,a2,(a3|a3),a4⟩
         · exact absurd (a3▸hlk.out) a4
         exact ⟨a1,a2,a3,a4⟩
       rintro ⟨a1,a2,a3,a4⟩;exact ⟨a1,a2, .inr a3,a4⟩
     have Au:=bO.out.1.grown H3.out.2.1 (by intro e;injection e with e;omega) (by intro e;injection e with e;omega);refine ⟨⟨left',G9,_,Y0 ⟨Au,(mO.out.keep (H3.out.2.1.block _ (by have:=bO.out.2.2.2.2.2.2;omega) (by intro e;injection e with e;omega))).iff (fun x=> ?_),hd.out.2.2.1.put H3.out.1 (fun v=> ?_) (fun x v hx=> ?_),bz.out.trans (Below.of_grown H3.out.2.1 (fun j hj=>by injection hj with hj;omega) (by have:=bO.out.2.2.2.2.2.2;omega))⟩⟩,by rw [aG Au,aG hd.out.1];have:=bO.out.2.2.1;omega⟩
     · have h1:=gZ bO.out.2.1 bO.out.2.2.2.2.2.1 x;rw [h1];constructor
       · rintro ⟨a1,a2⟩;exact ⟨a1,fun h=>a2 ⟨h.1, .inr h.2⟩⟩
       rintro ⟨a1,a2⟩;exact ⟨a1,fun h=>by rcases h.2 with h2|h2;exact hlk.out (h2▸a1);exact a2 ⟨h.1,h2⟩⟩
     · exact ⟨fun h=>h.1,fun h=>⟨h,bO.out.2.2.2.2.1,bO.out.2.2.2.2.2.1,hlk.out⟩⟩
     have h1:=gZ bO.out.2.1 bO.out.2.2.2.2.2.1 x;rw [h1]
     simp [hx]
   | nil=>
     have HT:Hid (dX wr w5.heap.size G9 (fun x=>x∈ins/\¬x∈af LI)/\dX wr (w5.heap.size+1) LI (fun x=>x∈xs\/x∈rq)/\mG wr (w5.heap.size+1+1) PD (fun x v=>v=0/\x∈af LI/\x∉ins)/\Below w5.heap.size w5 wr/\w5.heap.size+3<=wr.heap.size):=Y0 ⟨hd.out.2.1.iff (fun x=>by simp [af]),⟨hd.out.1.map,H7.out.2.2.2.2.2,H7.out.2.2.1⟩,hd.out.2.2.1.iff (fun x v=>by simp [af]),hd.out.2.2.2,by omega⟩;clear H7 iO E7;have aU:True:=trivial
     go_wp2_with (first
      | (clear aU;refine ay (o:=⟨some 96,_,_,_,_,_⟩) rfl _ rfl rfl hd.out.1 ?_ (by intro y2 b2 left' w2 hmem;cases hmem);intro _;have dh:True:=trivial;go_frame)
      | (clear dh;refine bp (o:=⟨some 109,_,_,_,_,_⟩) rfl _ _ rfl _ _ underlying91 rfl HT.out.1.map ?_;intro w6 uQ eQ iO;have H6:=Y3 uQ eQ iO;clear uQ eQ iO;go_frame))
     obtain ⟨UX,hit⟩:∃i,i=wr.heap.size:=⟨_,rfl⟩;rw [<-hit];have h6:=H6.out;have E7:=HT.out.2.2.2.2;rw [<-hit] at h6 E7;have H7:Hid (aL aO w6 w5.heap.size UX G9 G9/\dX w6 (w5.heap.size+1) LI (fun x=>x∈xs\/x∈rq)/\mG w6 (w5.heap.size+1+1) PD (fun x v=>v=0/\x∈af LI/\x∉ins)/\Below w5.heap.size w5 w6/\∀x,x∈af G9↔x∈ins/\¬x∈af LI):=Y0 ⟨h6.1,HT.out.2.1.keep (h6.2.1.block _ (by omega)),HT.out.2.2.1.keep (h6.2.1.block _ (by omega)),HT.out.2.2.2.1.trans (h6.2.1.mono (by omega)),HT.out.1.key⟩;have iO:w6.heap.size=UX+1:=h6.2.2;clear h6 hit H6 HT hd Da;go_loopw [22] (fun _ wq=>∃(left:List (aa × Bool)) (PD:List (aa × Nat)),Hid (aL aO wq w5.heap.size UX G9 left/\dX wq (w5.heap.size+1) LI (fun x=>x∈xs\/x∈rq)/\mG wq (w5.heap.size+1+1) PD (fun x v=>(v=0/\x∈af LI/\x∉ins)\/(v=1/\x∈af G9/\x∉af left))/\Below w5.heap.size w5 wq)) (fun _ wq=>gz wq UX)
     case atStart=>exact ⟨G9,PD,Y0 ⟨H7.out.1,H7.out.2.1,H7.out.2.2.1.iff (fun x v=>⟨fun h=>by rcases h with h|h;exact h;exact absurd h.2.1 h.2.2, .inl⟩),H7.out.2.2.2.1⟩⟩
     obtain ⟨left,Db,hd⟩:=hrel;have Da:=hd.out.1.lt
     cases left with
     | cons pr eX=>
       have aU:True:=trivial
       go_wp2_with (first
        | (clear aU;refine ay (o:=⟨some 110,_,_,_,_,_⟩) rfl _ rfl rfl hd.out.1 (by intro h;cases h) ?_;intro s2 b2 left' w2' hmem hget eI ba hlen hns hg2 hs2 hent;have bO:=Y7 eI ba hlen hg2 (aF.1 (by rw [hget];rfl)) hns hs2;have mO:=Y0 (hd.out.2.1.keep (hg2.block _ (by omega) (by intro e;injection e with e;omega)));have UW:=Y0 (hd.out.2.2.1.keep (hg2.block _ (by omega) (by intro e;injection e with e;omega)));have bz:=Y0 (hd.out.2.2.2.trans (Below.of_grown hg2 (fun j hj=>by injection hj with hj;omega) (by omega)));clear hmem hget eI ba hlen hns hg2 hs2;have hlk:=Y0 ((H7.out.2.2.2.2 s2).1 bO.out.2.2.2.2.1);have dh:True:=trivial;go_frame)
        | (clear dh;refine bL (o:=⟨some 116,_,_,_,_,_⟩) (f:=aO) rfl _ _ 91 rfl _ _ underlying91 underlying9 (.bool false) Uw rfl mO.out.map rfl ?_;rw [mO.out.no (fun h=>hlk.out.2 ((mO.out.key s2).2 h))];have rK:True:=trivial;go_frame)
        | (clear rK;refine aM (f:=yq) (b:=1) rfl _ _ _ 165 rfl _ _ underlying165 underlying9 rfl UW.out.map rfl rfl ?_;intro w3 nJ gD hs3;have H3:=Y3 nJ gD hs3;clear nJ gD hs3;go_frame))
       have Au:=bO.out.1.grown H3.out.2.1 (by intro e;injection e with e;omega) (by intro e;injection e with e;omega);refine ⟨⟨left',_,Y0 ⟨Au,mO.out.keep (H3.out.2.1.block _ (by have:=bO.out.2.2.2.2.2.2;omega) (by intro e;injection e with e;omega)),hd.out.2.2.1.put H3.out.1 (fun v=> ?_) (fun x v hx=> ?_),bz.out.trans (Below.of_grown H3.out.2.1 (fun j hj=>by injection hj with hj;omega) (by have:=bO.out.2.2.2.2.2.2;omega))⟩⟩,by rw [aG Au,aG hd.out.1];have:=bO.out.2.2.1;omega⟩
       · exact ⟨fun h=>by rcases h with h|h;exact absurd h.2.1 hlk.out.2;exact h.1,fun h=> .inr ⟨h,bO.out.2.2.2.2.1,bO.out.2.2.2.2.2.1⟩⟩
       have h1:=gZ bO.out.2.1 bO.out.2.2.2.2.2.1 x;rw [h1]
       simp [hx]
     | nil=>
       have HQ:Hid (dX wr (w5.heap.size+1) LI (fun x=>x∈xs\/x∈rq)/\mG wr (w5.heap.size+1+1) Db (fun x v=>(v=0/\x∈af LI/\x∉ins)\/(v=1/\x∈ins/\¬x∈af LI))/\Below w5.heap.size w5 wr/\w5.heap.size+3<=wr.heap.size):=Y0 ⟨hd.out.2.1,hd.out.2.2.1.iff (fun x v=>by rw [H7.out.2.2.2.2 x];exact ⟨fun h=>h.imp id (fun h2=>⟨h2.1,h2.2,by simp [af]⟩),fun h=>h.imp id (fun h2=>⟨h2.1,h2.2.1⟩)⟩),hd.out.2.2.2,by omega⟩
       have Xi:Db.length<=1000000:=by
        have h1:=bQ hd.out.2.2.1.map.nodup (m:=af LI++ins) (fun x hx=>by
         obtain ⟨v,hv⟩:=Option.isSome_iff_exists.1 (aF.2 hx);rcases (HQ.out.2.1.get x v).1 hv with h|h
         · exact List.mem_append.2 (.inl h.2.1)
         exact List.mem_append.2 (.inr h.2.1))
        simp [af] at h1;omega
       clear H7 iO E7;have aU:True:=trivial
       go_wp2_with (first
        | (clear aU;refine ay (o:=⟨some 110,_,_,_,_,_⟩) rfl _ rfl rfl hd.out.1 ?_ (by intro y2 b2 left' w2 hmem;cases hmem);intro _;have dh:True:=trivial;go_frame)
        | (clear dh;go_at_call 69;refine (f69 yq (w5.heap.size+1+1) Db wr HQ.out.2.1.map Xi).mono ?_;rintro e w8 ⟨vk,ks,Fk,rfl,yh,pD,GX,tM⟩;obtain ⟨Ak,ck,rfl⟩:=pD.form;have HK:=Y4 yh pD GX tM;clear yh pD GX tM))
       have KZ:Hid (dX w8 (w5.heap.size+1) LI (fun x=>x∈xs\/x∈rq)/\mG w8 (w5.heap.size+1+1) Db (fun x v=>(v=0/\x∈af LI/\x∉ins)\/(v=1/\x∈ins/\¬x∈af LI))/\Below w5.heap.size w5 w8/\w5.heap.size+3<=w8.heap.size):=Y0 (by
        have h1:=HQ.out.2.2.2;have h2:=HK.out.2.2.2.size;exact ⟨HQ.out.1.keep (HK.out.2.2.2.block _ (by omega)),HQ.out.2.1.keep (HK.out.2.2.2.block _ (by omega)),HQ.out.2.2.1.trans (HK.out.2.2.2.mono (by omega)),by omega⟩)
       have UY:Hid (KeysOf Db ks/\bK (fun _=>False) w8 (.slice Ak ks.length ck) ks):=Y0 ⟨HK.out.1,HK.out.2.1.rd (fun b hb=>hb.elim) (fun b hb=>hb.elim) (by decide)⟩
       have hkl:ks.length<=1000000:=by
        have h1:=bQ (ej UY.out.1.1) (m:=af Db) (fun x hx=>(UY.out.1.2 x).1 hx);simp [af] at h1;omega
       have h58:=KZ.out.2.2.2;obtain ⟨Bk,tM⟩:∃B,B=wr.heap.size:=⟨_,rfl⟩;have aaM:w5.heap.size+3<=Bk:=by rw [tM];exact HQ.out.2.2.2
       have YR:Hid (Own aD Bk 9 Fk w8 (.slice Ak ks.length ck) ks):=Y0 (by rw [tM];exact HK.out.2.1);clear HQ HK tM hd Da Xi hl0;go_loopw [123] (fun i wr=>∃(k:Nat) (vM vE:Value) (M E:List aa),i= .int .i64 k/\k<=ks.length/\Hid (Dy (w.heap.size+1+1+1+1) (w.heap.size+1+1+1) (w.heap.size+1+1) w8 wr ks k Db vM vE M E)) (fun i _=>ks.length - (intOf i).toNat)
       case atStart=>exact ⟨0, .slice none 0 0, .slice none 0 0, [], [],rfl,by omega,Y0 ⟨Own.nil _ _ _ _ _,Own.nil _ _ _ _ _,fun j hj=>by simp [Value.ownBlock] at hj,(KZ.out.2.2.1.block _ (by omega)).trans oa.out.1,oN.refl _ _,by simp,by simp⟩⟩
       obtain ⟨k,vM,vE,ML,EL,rfl,hk,hc⟩:=hrel;by_cases hlt:k<ks.length
       · have hlt':(k:Int)<(ks.length:Int):=by omega
         obtain ⟨x,hkx⟩:∃x,ks[k]?=some x:=⟨_,List.getElem?_eq_getElem hlt⟩;have QC:Hid (∀b,b<w8.heap.size->b≠w.heap.size+1+1+1+1->wr.heap[b]?=w8.heap[b]?):=Y0 fun b h1 h2=>hc.out.chg.fr b h1 h2
         have hrow:=aW (aX YR.out (fun j hj=>QC.out j (ak YR.out hj).2.2.1 (by have:=(ak YR.out hj).2.1;omega)) (fun _ q=>q));obtain ⟨gk,RM,hA,_,_⟩:=hrow.form (by omega);simp only [Value.slice.injEq,true_and] at hA;obtain ⟨rfl,rfl⟩:=hA;have hcell:wr.cell? ⟨gk,k,none⟩=some (.string x):=eW.at_ (base:=Bk) (e:=9) (l:=ks) hrow hkx;have hD:=Y0 (KZ.out.2.1.keep (QC.out (w5.heap.size+1+1) (by omega) (by omega)));obtain ⟨v,hv⟩:=Option.isSome_iff_exists.1 (aF.2 ((UY.out.1.2 x).1 (List.mem_of_getElem? hkx)));have hvv:v=0\/v=1:=by rcases (KZ.out.2.1.get x v).1 hv with h|h;exact .inl h.1;exact .inr h.1
         obtain ⟨MA,NM,YS⟩:=hc.out.om.form;obtain ⟨EA,NN,YT⟩:=hc.out.oe.form;subst YS YT;have hlen:=hc.out.len;obtain ⟨hlM,hlE⟩:=hlen;have y1:wr.cell? ⟨w.heap.size+1+1+1+1,1,none⟩=some (.slice MA ML.length NM):=ae hc.out.row rfl;have y2:wr.cell? ⟨w.heap.size+1+1+1+1,2,none⟩=some (.slice EA EL.length NN):=ae hc.out.row rfl;have SH:=hc.out.chg.size;have O1:=Y0 hkx;have fZ:Below wr.heap.size wr (wr.alloc (.cells #[.string x] 9)):=(Below.refl _ _).alloc (Nat.le_refl _) _;have vh:=Y0 fZ;clear hrow hkx fZ;have flag:True:=trivial;rcases hvv with hv0|hv1
         · have AH:ai Db x=some 0:=by rw [hv,hv0]
           have HV:=Y0 AH;have hlk:((ai Db x).map yq).getD (.int .u8 0)= .int .u8 0:=by rw [AH];rfl
           clear AH hv hv0;have rZ:=Y0 (hc.out.om.pure vh.out);have xB:=Y0 (Rd.one (d:=aD) (F:=fun b=>(Value.slice MA ML.length NM).ownBlock=some b) (w:=wr) (e:=9) (x:=x) (cs:= #[.string x]) rfl (fun b hb=>(hc.out.lt.1 b hb).2))
           go_wp2_with (first
            | (clear flag;refine bL (o:=⟨some 129,_,_,_,_,_⟩) (f:=yq) rfl _ _ 165 rfl _ _ underlying165 underlying9 (.int .u8 0) KW rfl hD.out.map rfl ?_;rw [hlk];have aj:True:=trivial;go_frame)
            | (clear aj;at_builtin;refine aH (o:=⟨some 136,_,_,_,_,_⟩) rfl _ _ 22 rfl aD 9 (.string ⟨#[]⟩) 16 underlying22 eA rfl (by decide) rfl rfl rZ.out xB.out (by simp [maxLen];omega) (by simp;omega) (by have:=hc.out.chg.size;simp;omega) rfl (ML.length+1) (by rw [List.length_append];rfl) ?_;intro A9 c9 w9 F9 sK ki kK jl;have r8:=(kK.block (w.heap.size+1+1+1+1) (by omega)).trans ((vh.out.block _ (by omega)).trans hc.out.row);have z1:w9.cell? ⟨w.heap.size+1+1+1+1,1,none⟩=some (.slice MA ML.length NM):=ae r8 rfl;have z2:=frozenAt (j:=1) r8;have H9:=Y4 sK ki kK jl;clear sK ki kK jl r8;go_frame))
           exact ⟨⟨k+1,_,_,_,_,by go_num,by omega,Y0 (hc.out.pushM (by omega) O1.out HV.out vh.out H9.out.1 H9.out.2.1 H9.out.2.2.1 H9.out.2.2.2)⟩,by simp [intOf];omega⟩
         have AH:ai Db x=some 1:=by rw [hv,hv1]
         have HV:Hid (ai Db x≠some 0):=Y0 (by rw [AH];simp);have hlk:((ai Db x).map yq).getD (.int .u8 0)= .int .u8 1:=by rw [AH];rfl
         clear AH hv hv1;have rZ:=Y0 (hc.out.oe.pure vh.out);have xB:=Y0 (Rd.one (d:=aD) (F:=fun b=>(Value.slice EA EL.length NN).ownBlock=some b) (w:=wr) (e:=9) (x:=x) (cs:= #[.string x]) rfl (fun b hb=>(hc.out.lt.2 b hb).2))
         go_wp2_with (first
          | (clear flag;refine bL (o:=⟨some 129,_,_,_,_,_⟩) (f:=yq) rfl _ _ 165 rfl _ _ underlying165 underlying9 (.int .u8 0) KW rfl hD.out.map rfl ?_;rw [hlk];have aj:True:=trivial;go_frame)
          | (clear aj;at_builtin;refine aH (o:=⟨some 142,_,_,_,_,_⟩) rfl _ _ 22 rfl aD 9 (.string ⟨#[]⟩) 16 underlying22 eA rfl (by decide) rfl rfl rZ.out xB.out (by simp [maxLen];omega) (by simp;omega) (by have:=hc.out.chg.size;simp;omega) rfl (EL.length+1) (by rw [List.length_append];rfl) ?_;intro A9 c9 w9 F9 sK ki kK jl;have r8:=(kK.block (w.heap.size+1+1+1+1) (by omega)).trans ((vh.out.block _ (by omega)).trans hc.out.row);have z1:w9.cell? ⟨w.heap.size+1+1+1+1,2,none⟩=some (.slice EA EL.length NN):=ae r8 rfl;have z2:=frozenAt (j:=2) r8;have H9:=Y4 sK ki kK jl;clear sK ki kK jl r8;go_frame))
         exact ⟨⟨k+1,_,_,_,_,by go_num,by omega,Y0 (hc.out.pushE (by omega) O1.out HV.out vh.out H9.out.1 H9.out.2.1 H9.out.2.2.1 H9.out.2.2.2)⟩,by simp [intOf];omega⟩
       have hlt':¬(k:Int)<(ks.length:Int):=by omega
       have YU:k=ks.length:=by omega
       subst YU;have HMS:=Y0 hc.out;obtain ⟨we,RF⟩:∃W,W=wr:=⟨_,rfl⟩;subst RF;have QC:Hid (∀b,b<w8.heap.size->b≠w.heap.size+1+1+1+1->we.heap[b]?=w8.heap[b]?):=Y0 fun b h1 h2=>hc.out.chg.fr b h1 h2
       have G0:Hid (Below (w.heap.size+1+1+1+1) w5 we):=Y0 ((KZ.out.2.2.1.mono (by omega)).trans (hc.out.chg.below (fun b hb=>Nat.le_of_eq hb.symm) (by omega)));have Rf:w8.heap.size<=we.heap.size:=hc.out.chg.size;have YV:Hid (Below w.heap.size w we):=Y0 (CM.out.trans (G0.out.mono (by omega)));have hIe:=Y0 (rO.out.pure YV.out);have hTe:Hid (dX we (w5.heap.size+1) LI (fun x=>x∈xs\/x∈rq)):=Y0 (KZ.out.1.keep (QC.out _ (by omega) (by omega)));have UZ:Hid (av we (w.heap.size+1) qa 94/\ah tQ we (w.heap.size+1+1+1) []/\ah tQ we (w.heap.size+1+1) []):=Y0 ⟨(G0.out.block _ (by omega)).trans oa.out.2.1,oa.out.2.2.1.keep (G0.out.block _ (by omega)),oa.out.2.2.2.keep (G0.out.block _ (by omega))⟩;have QZ:La.length<=11:=by have h1:=rO.out.na.len;have h2:=dU.out.ns.n;omega
       have YW:Hid ((∀r∈af La,r≠ByteArray.empty/\r.size<=1000000)/\∀x∈af LI,x.size<=140737488351232):=Y0 ⟨fun r hr=>by
        obtain ⟨n,hn,rfl⟩:=List.mem_map.1 ((oQ rO.out.na r).1 hr);have h1:=rV (dU.out.ns.one n hn).path;exact ⟨h1.1,by omega⟩,fun x hx=>by
        rcases (hTe.out.key x).1 hx with h|h
        · have h1:=NH.out.2.2.2 x h;omega
        have h1:=dU.out.r2 x h;omega⟩
       clear hc;have flag:True:=trivial
       go_wp2_with (first
        | (clear flag;go_at_call 70;refine (f70 a b ib d (w5.heap.size+1) La LI we hIe.out.a hTe.out.map QZ YW.out.1 YW.out.2).mono ?_;rintro e wf ⟨eb,Le,rfl,hME,hES,heb,hBf⟩;have Hf:=Y4 hME hES heb hBf;clear hME hES heb hBf;have aj:True:=trivial)
        | (clear aj;go_at_call 260;refine (f260 a b ib d wf).mono ?_;rintro e wg ⟨rfl,az⟩;have Hg:=Y0 (Hf.out.2.2.2.trans (az.mono Hf.out.2.2.2.size));have HgE:=Y0 (Hf.out.1.pure az);clear az;have au:True:=trivial)
        | (clear au;go_at_call 258;refine (f258 a b ib d wg).mono ?_;rintro e wh ⟨rfl,az⟩;have Hh:=Y0 (Hg.out.trans (az.mono Hg.out.size));have HhE:=Y0 (HgE.out.pure az);clear az;have aQ:True:=trivial)
        | (clear aQ;go_at_call 268;refine (f268 _ _ _ _ _ _ wh).mono ?_;rintro e wi ⟨rfl,az⟩;have Hi:=Y0 (Hh.out.trans (az.mono Hh.out.size));have YX:=Y0 (HhE.out.pure az);clear az))
       have XT:we.heap.size<=eb/\eb<wi.heap.size:=⟨Hf.out.2.2.1,YX.out.lt⟩;have hEf:Hid (rR (af La) LI [] Le):=Y0 Hf.out.2.1;have hWi:Hid (Below w.heap.size w wi):=Y0 (YV.out.trans (Hi.out.mono YV.out.size));have aaN:we.heap.size<=wi.heap.size:=Hi.out.size;have OT:Hid (av wi (w.heap.size+1) qa 94/\ah tQ wi (w.heap.size+1+1+1) []/\ah tQ wi (w.heap.size+1+1) []):=Y0 ⟨(Hi.out.block _ (by omega)).trans UZ.out.1,UZ.out.2.1.pure Hi.out,UZ.out.2.2.pure Hi.out⟩
       have Ha:Hid (Dy (w.heap.size+1+1+1+1) (w.heap.size+1+1+1) (w.heap.size+1+1) w8 wi ks ks.length Db vM vE ML EL):=Y0 (by
        have h:=HMS.out;exact ⟨h.om.pure Hi.out,h.oe.pure Hi.out,h.ne,(Hi.out.block _ (by omega)).trans h.row,h.chg.pure (Hi.out.mono (by omega)),h.m,h.e⟩)
       have hiE:=Y0 YX.out;clear Hf Hg HgE Hh HhE YX UZ HMS hTe hIe YW QZ;have SI:=yt;have SJ:=z175;have hll:lps.length<=1000:=dU.out.ln;go_loopw [155] (fun i wr=>∃(k:Nat) (LC LO:List (aa × (Value × Value))),i= .int .i64 k/\k<=lps.length/\Hid (NK (w.heap.size+1+1+1) (w.heap.size+1+1) wi wr ns os (· ∈af Le) (lps.take k) LC LO)) (fun i _=>lps.length - (intOf i).toNat)
       case atStart=>exact ⟨0, [], [],rfl,by omega,Y0 ⟨OT.out.2.1,OT.out.2.2,fun r=>⟨fun h=>(by cases h),fun ⟨l,h,_⟩=>by simp at h⟩,fun r=>⟨fun h=>(by cases h),fun ⟨l,h,_⟩=>by simp at h⟩,oN.refl _ _⟩⟩
       obtain ⟨k,LC,LO,rfl,hk,hc⟩:=hrel;have YY:Hid (Below w.heap.size w wr):=Y0 (hWi.out.trans (hc.out.chg.below (fun b hb=>by rcases hb with h|h<;>omega) (by omega)));by_cases hlt:k<lps.length
       · have hlt':(k:Int)<(lps.length:Int):=by omega
         obtain ⟨g,off,cs,rfl,-,hg,⟨Z8,rfl,hlv⟩,hcells⟩:=(HLk.out.1.pure YY.out).at_ (List.getElem?_eq_getElem hlt)
         have hcell:wr.cell? ⟨g,off+k,none⟩=some Z8:=by
          have h:=hcells 0 _ rfl;simpa [GM] using h
         have htk:Hid (∀y,y∈lps.take (k+1)↔y=lps[k]\/y∈lps.take k):=Y0 fun y=>by rw [List.take_succ_eq_append_getElem hlt,List.mem_append,List.mem_singleton,or_comm]
         have su:=dU.out.lp _ (List.getElem_mem hlt);generalize lps[k]=l at*;have Gm:=Y0 hlv;have nV:=Y0 su;obtain ⟨T,x,rfl⟩:=hlv.form;have vP:=Y0 (rO.out.pure YY.out);clear hcells hlv su;have flag:True:=trivial;rcases yr vP.out.nb dU.out.os l.root with ⟨hg1,hg2⟩|⟨p,n,hg1,hg2,hok,NP⟩
         · have HG2:=Y0 hg2;have hlk:((ai Lb l.root).map tq).getD (.agg #[.string ⟨#[]⟩, .nilIface])= .agg #[.string ⟨#[]⟩, .nilIface]:=by rw [hg1];rfl
           have hlk2:(ai Lb l.root).isSome=false:=by rw [hg1];rfl
           clear hg1 hg2;rcases yr vP.out.na dU.out.ns l.root with ⟨hg3,hg4⟩|⟨p,n,hg3,hg4,hok,NP⟩
           · have HG4:=Y0 hg4;have NQ:((ai La l.root).map tq).getD (.agg #[.string ⟨#[]⟩, .nilIface])= .agg #[.string ⟨#[]⟩, .nilIface]:=by rw [hg3];rfl
             have NR:(ai La l.root).isSome=false:=by rw [hg3];rfl
             clear hg3 hg4
             go_wp2_with (first
              | (clear flag;refine lA (o:=⟨some 160,_,_,_,_,_⟩) rfl Gm.out _ rfl rfl ?_;intro w2 cZ;have H2:=Y0 cZ;clear cZ;have aj:True:=trivial;go_frame)
              | (clear aj;refine bA (o:=⟨some 165,_,_,_,_,_⟩) (f:=tq) rfl _ _ 100 rfl _ _ underlying100 underlying110 (.agg #[.string ⟨#[]⟩, .nilIface]) SJ rfl (vP.out.b.pure H2.out) rfl ?_;rw [hlk,hlk2];have au:True:=trivial;go_frame)
              | (clear au;refine bA (o:=⟨some 188,_,_,_,_,_⟩) (f:=tq) rfl _ _ 100 rfl _ _ underlying100 underlying110 (.agg #[.string ⟨#[]⟩, .nilIface]) SJ rfl ((vP.out.a.pure H2.out).pure ((Below.refl _ _).alloc (Nat.le_refl _) _)) rfl ?_;rw [NQ,NR];have aQ:True:=trivial;go_frame))
             obtain ⟨w3,hw3,g2,g3,hs3,bb⟩:=dO w2 (.cells #[.string ⟨#[]⟩, .nilIface] 175) (.cells #[.string ⟨#[]⟩, .nilIface] 175);rw [<-hw3];have hsc:=hc.out.chg.size;have SK:wr.heap.size<=w2.heap.size:=H2.out.size;have fX:Hid (Below wr.heap.size wr w3):=Y0 (H2.out.trans (bb.mono H2.out.size));clear hw3 g2 g3 bb
             have rW:Hid (∀(wx:World),Below wr.heap.size wr wx->NK (w.heap.size+1+1+1) (w.heap.size+1+1) wi wx ns os (· ∈af Le) (lps.take (k+1)) LC LO):=Y0 fun wx hb=>by
              refine ⟨hc.out.c.pure hb,hc.out.o.pure hb,fun r=> ?_,fun r=> ?_,hc.out.chg.pure (hb.mono hsc)⟩
              · rw [hc.out.kc r];unfold JA;constructor
                · rintro ⟨y,h1,h2⟩;exact ⟨y,(htk.out y).2 (.inr h1),h2⟩
                rintro ⟨y,h1,h2,h3,⟨n',h4,h5⟩,h6⟩;rcases (htk.out y).1 h1 with rfl|h1
                · rw [<-h2,HG4.out] at h4;cases h4
                exact ⟨y,h1,h2,h3,⟨n',h4,h5⟩,h6⟩
              rw [hc.out.ko r];unfold G6;constructor
              · rintro ⟨y,h1,h2⟩;exact ⟨y,(htk.out y).2 (.inr h1),h2⟩
              rintro ⟨y,h1,h2,n',h3,h4⟩;rcases (htk.out y).1 h1 with rfl|h1
              · rw [<-h2,HG2.out] at h3;cases h3
              exact ⟨y,h1,h2,n',h3,h4⟩
             refine wp_region_held_drew (S:=(fun _=>True)) (by kernel_rfl) ?_ (fun hHeld=> ?_)
             · (try dsimp only)
               all_goals trivial
             refine ik [0,1,2,3,4,5,6,7,8,9,10,11,12,13,14,15] ?_;refine ve ?_;go_wp2;exact ⟨⟨k+1,LC,LO,by go_num,by omega,Y0 (rW.out _ (fX.out.trans (Below.refl _ _).drew))⟩,by simp [intOf];omega⟩
           obtain ⟨s1,cv⟩:=p;obtain ⟨CT,cx,hcv,hnil⟩:=NP.form;dsimp only at hcv;subst hcv;have HG:=Y3 hg4 hok NP;have NQ:((ai La l.root).map tq).getD (.agg #[.string ⟨#[]⟩, .nilIface])= .agg #[.string s1, .iface CT cx]:=by rw [hg3];rfl
           have NR:(ai La l.root).isSome=true:=by rw [hg3];rfl
           clear hg3 hg4 hok NP
           go_wp2_with (first
            | (clear flag;refine lA (o:=⟨some 160,_,_,_,_,_⟩) rfl Gm.out _ rfl rfl ?_;intro w2 cZ;have H2:=Y0 cZ;clear cZ;have aj:True:=trivial;go_frame)
            | (clear aj;refine bA (o:=⟨some 165,_,_,_,_,_⟩) (f:=tq) rfl _ _ 100 rfl _ _ underlying100 underlying110 (.agg #[.string ⟨#[]⟩, .nilIface]) SJ rfl (vP.out.b.pure H2.out) rfl ?_;rw [hlk,hlk2];have au:True:=trivial;go_frame)
            | (clear au;refine bA (o:=⟨some 188,_,_,_,_,_⟩) (f:=tq) rfl _ _ 100 rfl _ _ underlying100 underlying110 (.agg #[.string ⟨#[]⟩, .nilIface]) SJ rfl ((vP.out.a.pure H2.out).pure ((Below.refl _ _).alloc (Nat.le_refl _) _)) rfl ?_;rw [NQ,NR];have aQ:True:=trivial;go_frame))
           obtain ⟨w3,hw3,g2,g3,hs3,bb⟩:=dO w2 (.cells #[.string ⟨#[]⟩, .nilIface] 175) (.cells #[.string s1, .iface CT cx] 175);rw [<-hw3];have hsc:=hc.out.chg.size;have SK:wr.heap.size<=w2.heap.size:=H2.out.size;have fX:Hid (Below wr.heap.size wr w3):=Y0 (H2.out.trans (bb.mono H2.out.size));have h7:w3.heap[w.heap.size+1+1+1+1]?=some (.cells #[.bool true,vM,vE, .map (some (w.heap.size+1+1+1)), .map (some (w.heap.size+1+1))] 94 (0,0)):=(fX.out.block _ (by omega)).trans (hc.out.chg.row Ha.out.row (by intro h;rcases h with h|h<;>omega));have hS:Hid (∀W:World,W.heap[w2.heap.size+1]?=w3.heap[w2.heap.size+1]?->W.heap[w.heap.size+1+1+1+1]?=w3.heap[w.heap.size+1+1+1+1]?->W.heap[eb]?=w3.heap[eb]?->((fun W=>W.cell? ⟨w2.heap.size+1,1,none⟩=some (.iface CT cx)/\W.cell? ⟨w.heap.size+1+1+1+1,3,none⟩=some (.map (some (w.heap.size+1+1+1)))/\W.heap[eb]?=w3.heap[eb]?) W)):=Y0 fun W h1 h2 h3=>⟨ae (h1.trans g3) rfl,ae (h2.trans h7) rfl,h3⟩
           have lL:Hid (ah aO w3 eb Le):=Y0 (((hc.out.chg.map hiE.out (by intro h;rcases h with h|h<;>omega)).pure fX.out));obtain ⟨GT,gx,M0⟩:∃T x,l.g.val= .iface T x:=by rcases l.g with r|(⟨a1,a2⟩|a1|a1)|⟨u,r⟩<;>exact ⟨_,_,rfl⟩
           clear hw3 g2 g3 bb h7;by_cases O2:l.root∈af Le
           · have JC:Hid (∀W:World,W.heap[eb]?=w3.heap[eb]?->(Instr.lookup 91 (.map (some eb)) (.string l.root) false).run Tryz.prog W= .ok (.bool true) W):=Y0 fun W hW=>by
              have h1:=jC (f:=aO) underlying91 underlying9 z4 (lL.out.keep hW) l.root false;obtain ⟨v,hv⟩:=Option.isSome_iff_exists.1 (aF.2 O2);rw [hv,hEf.out.val _ v hv] at h1;exact h1
             have YZ:=Y0 O2;clear O2;cases hm:n.c.g.1.mat l.g
             · have rW:Hid (∀(wx wy:World),Below wr.heap.size wr wx->ah tQ wy (w.heap.size+1+1+1) (bN LC l.root (.iface CT cx, .iface GT gx))->wx.grownBy wy (some (w.heap.size+1+1+1))->NK (w.heap.size+1+1+1) (w.heap.size+1+1) wi wy ns os (· ∈af Le) (lps.take (k+1)) (bN LC l.root (.iface CT cx, .iface GT gx)) LO):=Y0 fun wx wy hb hM hG=>by
                refine ⟨hM,(hc.out.o.pure hb).grown hG (by intro e;injection e with e;omega),fun r=> ?_,fun r=> ?_,(hc.out.chg.pure (hb.mono hsc)).grown hG (.inl (.inl rfl))⟩
                · rw [bH,hc.out.kc r];unfold JA;constructor
                  · rintro (rfl|⟨y,h1,h2⟩)
                    · exact ⟨l,(htk.out l).2 (.inl rfl),rfl,HG2.out,⟨n,HG.out.1,hm⟩,YZ.out⟩
                    exact ⟨y,(htk.out y).2 (.inr h1),h2⟩
                  rintro ⟨y,h1,h2,h3⟩;rcases (htk.out y).1 h1 with rfl|h1
                  · exact .inl h2.symm
                  exact .inr ⟨y,h1,h2,h3⟩
                rw [hc.out.ko r];unfold G6;constructor
                · rintro ⟨y,h1,h2⟩;exact ⟨y,(htk.out y).2 (.inr h1),h2⟩
                rintro ⟨y,h1,h2,n',h3,h4⟩;rcases (htk.out y).1 h1 with rfl|h1
                · rw [<-h2,HG2.out] at h3;cases h3
                exact ⟨y,h1,h2,n',h3,h4⟩
               refine wp_region_held_drew (S:=(fun W=>W.cell? ⟨w2.heap.size+1,1,none⟩=some (.iface CT cx)/\W.cell? ⟨w.heap.size+1+1+1+1,3,none⟩=some (.map (some (w.heap.size+1+1+1)))/\W.heap[eb]?=w3.heap[eb]?)) (by kernel_rfl) ?_ (fun hHeld=> ?_)
               · (try dsimp only)
                 first|assumption|exact hS.out _ rfl rfl rfl|exact iH
               refine ik [0,1,2,3] ?_;refine sN 4 ?_ ?_ ?_;rotate_left;(intro W0 hSw;have SL:=JC.out _ hSw.2.2;(go_simp<;>with_reducible rfl));(try simp only [Act.put,aA,aB,aC]);refine ik [5,6,7,8,9,11,12] ?_;refine kq 10 (fun K hK=> ?_);rw [if_pos (show Region.wanted _ _=true by rfl)];refine ow Gm.out nV.out.1 _ rfl rfl ?_;intro w4 hB;have nP:Hid (Below w3.heap.size w3 w4):=Y0 ((Below.refl _ _).drew.trans hB);have Gn:=nP.out.size;have NS:=hS.out w4 (nP.out.block _ (by omega)) (nP.out.block _ (by omega)) (nP.out.block _ (by omega));clear hB;refine hK.out _ _ ?_ (fun hHeld=> ?_)
               · (try dsimp only)
                 first|assumption|exact hS.out _ rfl rfl rfl|exact iH
               clear hK K
               (try simp only [Act.put,aA,aB,aC])
               refine kq 13 (fun K hK=> ?_);rw [if_pos (show Region.wanted _ _=true by rfl)];refine EY (F:=F) (c:=n.c.g.1) (g:=l.g) _ _ _ rfl rfl rfl (HG.out.2.2.pure (fX.out.trans (nP.out.mono fX.out.size))) (tj HG.out.2.1) nV.out.2 ?_;intro w6 hB;rw [hm];have mD:Hid (Below w3.heap.size w3 w6):=Y0 (nP.out.trans (hB.mono nP.out.size));have Gp:=mD.out.size;have iH:=hS.out w6 (mD.out.block _ (by omega)) (mD.out.block _ (by omega)) (mD.out.block _ (by omega));clear hB;refine hK.out _ _ ?_ (fun hHeld=> ?_)
               · (try dsimp only)
                 first|assumption|exact hS.out _ rfl rfl rfl|exact iH
               clear hK K
               (try simp only [Act.put,aA,aB,aC])
               refine ik [14,15] ?_;refine ve ?_;go_wp2;refine wp_region_held_drew (S:=(fun W=>W.cell? ⟨w2.heap.size+1,1,none⟩=some (.iface CT cx)/\W.cell? ⟨w.heap.size+1+1+1+1,3,none⟩=some (.map (some (w.heap.size+1+1+1)))/\W.heap[eb]?=w3.heap[eb]?)) (by kernel_rfl) ?_ (fun hHeld=> ?_)
               · (try dsimp only)
                 first|assumption|exact hS.out _ rfl rfl rfl|exact iH
               refine ik [0,1,2,3,4,5] ?_;refine kq 6 (fun K hK=> ?_);refine ly rfl Gm.out nV.out.1 _ rfl rfl ?_;intro w7 hB;rw [M0];have r7:Hid (Below w3.heap.size w3 w7):=Y0 (mD.out.trans (((Below.refl _ _).drew.trans hB).mono mD.out.size));have SM:=r7.out.size;have Sm:=hS.out w7 (r7.out.block _ (by omega)) (r7.out.block _ (by omega)) (r7.out.block _ (by omega));clear hB;refine hK.out _ _ ?_ (fun hHeld=> ?_)
               · (try dsimp only)
                 first|assumption|exact hS.out _ rfl rfl rfl|exact iH
               clear hK K
               (try simp only [Act.put,aA,aB,aC])
               refine ik [7] ?_;refine kq 8 (fun K hK=> ?_);refine nO (f:=tQ) (b:=(.iface CT cx, .iface GT gx)) (l:=LC) rfl _ _ _ 92 rfl _ _ underlying92 underlying110 rfl (hc.out.c.pure (fX.out.trans (r7.out.mono fX.out.size))) rfl rfl ?_;intro w9 BP jl ki;have H9:=Y3 BP jl ki;have hSe:=hS.out w9 ((jl.block _ (by omega) (by intro e;injection e with e;omega)).trans (r7.out.block _ (by omega))) ((jl.block _ (by omega) (by intro e;injection e with e;omega)).trans (r7.out.block _ (by omega))) ((jl.block _ (by omega) (by intro e;injection e with e;omega)).trans (r7.out.block _ (by omega)));clear BP jl;refine hK.out _ _ ?_ (fun hHeld=> ?_)
               · (try dsimp only)
                 first|assumption|exact hS.out _ rfl rfl rfl|exact iH
               clear hK K
               (try simp only [Act.put,aA,aB,aC])
               refine ve ?_;go_wp2;exact ⟨⟨k+1,_,LO,by go_num,by omega,Y0 (rW.out w7 w9 (fX.out.trans (r7.out.mono fX.out.size)) H9.out.1 H9.out.2.1)⟩,by simp [intOf];omega⟩
             have rW:Hid (∀(wx:World),Below wr.heap.size wr wx->NK (w.heap.size+1+1+1) (w.heap.size+1+1) wi wx ns os (· ∈af Le) (lps.take (k+1)) LC LO):=Y0 fun wx hb=>by
              refine ⟨hc.out.c.pure hb,hc.out.o.pure hb,fun r=> ?_,fun r=> ?_,hc.out.chg.pure (hb.mono hsc)⟩
              · rw [hc.out.kc r];unfold JA;constructor
                · rintro ⟨y,h1,h2⟩;exact ⟨y,(htk.out y).2 (.inr h1),h2⟩
                rintro ⟨y,h1,h2,h3,⟨n',h4,h5⟩,h6⟩;rcases (htk.out y).1 h1 with rfl|h1
                · rw [<-h2,HG.out.1] at h4;rw [<-Option.some.inj h4,hm] at h5;cases h5
                exact ⟨y,h1,h2,h3,⟨n',h4,h5⟩,h6⟩
              rw [hc.out.ko r];unfold G6;constructor
              · rintro ⟨y,h1,h2⟩;exact ⟨y,(htk.out y).2 (.inr h1),h2⟩
              rintro ⟨y,h1,h2,n',h3,h4⟩;rcases (htk.out y).1 h1 with rfl|h1
              · rw [<-h2,HG2.out] at h3;cases h3
              exact ⟨y,h1,h2,n',h3,h4⟩
             refine wp_region_held_drew (S:=(fun W=>W.cell? ⟨w2.heap.size+1,1,none⟩=some (.iface CT cx)/\W.cell? ⟨w.heap.size+1+1+1+1,3,none⟩=some (.map (some (w.heap.size+1+1+1)))/\W.heap[eb]?=w3.heap[eb]?)) (by kernel_rfl) ?_ (fun hHeld=> ?_)
             · (try dsimp only)
               first|assumption|exact hS.out _ rfl rfl rfl|exact iH
             refine ik [0,1,2,3] ?_;refine sN 4 ?_ ?_ ?_;rotate_left;(intro W0 hSw;have SL:=JC.out _ hSw.2.2;(go_simp<;>with_reducible rfl));(try simp only [Act.put,aA,aB,aC]);refine ik [5,6,7,8,9,11,12] ?_;refine kq 10 (fun K hK=> ?_);rw [if_pos (show Region.wanted _ _=true by rfl)];refine ow Gm.out nV.out.1 _ rfl rfl ?_;intro w4 hB;have nP:Hid (Below w3.heap.size w3 w4):=Y0 ((Below.refl _ _).drew.trans hB);have Gn:=nP.out.size;have NS:=hS.out w4 (nP.out.block _ (by omega)) (nP.out.block _ (by omega)) (nP.out.block _ (by omega));clear hB;refine hK.out _ _ ?_ (fun hHeld=> ?_)
             · (try dsimp only)
               first|assumption|exact hS.out _ rfl rfl rfl|exact iH
             clear hK K
             (try simp only [Act.put,aA,aB,aC])
             refine kq 13 (fun K hK=> ?_);rw [if_pos (show Region.wanted _ _=true by rfl)];refine EY (F:=F) (c:=n.c.g.1) (g:=l.g) _ _ _ rfl rfl rfl (HG.out.2.2.pure (fX.out.trans (nP.out.mono fX.out.size))) (tj HG.out.2.1) nV.out.2 ?_;intro w6 hB;rw [hm];have mD:Hid (Below w3.heap.size w3 w6):=Y0 (nP.out.trans (hB.mono nP.out.size));have Gp:=mD.out.size;have iH:=hS.out w6 (mD.out.block _ (by omega)) (mD.out.block _ (by omega)) (mD.out.block _ (by omega));clear hB;refine hK.out _ _ ?_ (fun hHeld=> ?_)
             · (try dsimp only)
               first|assumption|exact hS.out _ rfl rfl rfl|exact iH
             clear hK K
             (try simp only [Act.put,aA,aB,aC])
             refine ik [14,15] ?_;refine ve ?_;go_wp2;exact ⟨⟨k+1,LC,LO,by go_num,by omega,Y0 (rW.out w6 (fX.out.trans (mD.out.mono fX.out.size)))⟩,by simp [intOf];omega⟩
           have JC:Hid (∀W:World,W.heap[eb]?=w3.heap[eb]?->(Instr.lookup 91 (.map (some eb)) (.string l.root) false).run Tryz.prog W= .ok (.bool false) W):=Y0 fun W hW=>by
            have h1:=jC (f:=aO) underlying91 underlying9 z4 (lL.out.keep hW) l.root false;rw [fO.2 O2] at h1;exact h1
           have YZ:=Y0 O2;clear O2
           have rW:Hid (∀(wx:World),Below wr.heap.size wr wx->NK (w.heap.size+1+1+1) (w.heap.size+1+1) wi wx ns os (· ∈af Le) (lps.take (k+1)) LC LO):=Y0 fun wx hb=>by
            refine ⟨hc.out.c.pure hb,hc.out.o.pure hb,fun r=> ?_,fun r=> ?_,hc.out.chg.pure (hb.mono hsc)⟩
            · rw [hc.out.kc r];unfold JA;constructor
              · rintro ⟨y,h1,h2⟩;exact ⟨y,(htk.out y).2 (.inr h1),h2⟩
              rintro ⟨y,h1,h2,h3,⟨n',h4,h5⟩,h6⟩;rcases (htk.out y).1 h1 with rfl|h1
              · exact absurd (h2▸h6) YZ.out
              exact ⟨y,h1,h2,h3,⟨n',h4,h5⟩,h6⟩
            rw [hc.out.ko r];unfold G6;constructor
            · rintro ⟨y,h1,h2⟩;exact ⟨y,(htk.out y).2 (.inr h1),h2⟩
            rintro ⟨y,h1,h2,n',h3,h4⟩;rcases (htk.out y).1 h1 with rfl|h1
            · rw [<-h2,HG2.out] at h3;cases h3
            exact ⟨y,h1,h2,n',h3,h4⟩
           refine wp_region_held_drew (S:=(fun W=>W.cell? ⟨w2.heap.size+1,1,none⟩=some (.iface CT cx)/\W.cell? ⟨w.heap.size+1+1+1+1,3,none⟩=some (.map (some (w.heap.size+1+1+1)))/\W.heap[eb]?=w3.heap[eb]?)) (by kernel_rfl) ?_ (fun hHeld=> ?_)
           · (try dsimp only)
             first|assumption|exact hS.out _ rfl rfl rfl|exact iH
           refine ik [0,1,2,3] ?_;refine sN 4 ?_ ?_ ?_;rotate_left;(intro W0 hSw;have SL:=JC.out _ hSw.2.2;(go_simp<;>with_reducible rfl));(try simp only [Act.put,aA,aB,aC]);refine ik [5,6,7,8,9,10,11,12,13,14,15] ?_;refine ve ?_;go_wp2;exact ⟨⟨k+1,LC,LO,by go_num,by omega,Y0 (rW.out _ (fX.out.trans (Below.refl _ _).drew))⟩,by simp [intOf];omega⟩
         obtain ⟨s1,cv⟩:=p;obtain ⟨CT,cx,hcv,hnil⟩:=NP.form;dsimp only at hcv;subst hcv;have HG:=Y3 hg2 hok NP;have hlk:((ai Lb l.root).map tq).getD (.agg #[.string ⟨#[]⟩, .nilIface])= .agg #[.string s1, .iface CT cx]:=by rw [hg1];rfl
         have hlk2:(ai Lb l.root).isSome=true:=by rw [hg1];rfl
         clear hg1 hg2 hok NP
         go_wp2_with (first
          | (clear flag;refine lA (o:=⟨some 160,_,_,_,_,_⟩) rfl Gm.out _ rfl rfl ?_;intro w2 cZ;have H2:=Y0 cZ;clear cZ;have aj:True:=trivial;go_frame)
          | (clear aj;refine bA (o:=⟨some 165,_,_,_,_,_⟩) (f:=tq) rfl _ _ 100 rfl _ _ underlying100 underlying110 (.agg #[.string ⟨#[]⟩, .nilIface]) SJ rfl (vP.out.b.pure H2.out) rfl ?_;rw [hlk,hlk2];have au:True:=trivial;go_frame))
         obtain ⟨w3,hw3,g3,hs3,bb⟩:=aZ w2 (.cells #[.string s1, .iface CT cx] 175);rw [<-hw3];have hsc:=hc.out.chg.size;have SK:wr.heap.size<=w2.heap.size:=H2.out.size;have fX:Hid (Below wr.heap.size wr w3):=Y0 (H2.out.trans (bb.mono H2.out.size));have h7:w3.heap[w.heap.size+1+1+1+1]?=some (.cells #[.bool true,vM,vE, .map (some (w.heap.size+1+1+1)), .map (some (w.heap.size+1+1))] 94 (0,0)):=(fX.out.block _ (by omega)).trans (hc.out.chg.row Ha.out.row (by intro h;rcases h with h|h<;>omega));have hS:Hid (∀W:World,W.heap[w2.heap.size]?=w3.heap[w2.heap.size]?->W.heap[w.heap.size+1+1+1+1]?=w3.heap[w.heap.size+1+1+1+1]?->((fun W=>W.cell? ⟨w2.heap.size,1,none⟩=some (.iface CT cx)/\W.cell? ⟨w.heap.size+1+1+1+1,4,none⟩=some (.map (some (w.heap.size+1+1)))) W)):=Y0 fun W h1 h2=>⟨ae (h1.trans g3) rfl,ae (h2.trans h7) rfl⟩
         obtain ⟨GT,gx,M0⟩:∃T x,l.g.val= .iface T x:=by rcases l.g with r|(⟨a1,a2⟩|a1|a1)|⟨u,r⟩<;>exact ⟨_,_,rfl⟩
         clear hw3 g3 bb h7;cases hm:n.c.g.1.mat l.g
         · have rW:Hid (∀(wx wy:World),Below wr.heap.size wr wx->ah tQ wy (w.heap.size+1+1) (bN LO l.root (.iface CT cx, .iface GT gx))->wx.grownBy wy (some (w.heap.size+1+1))->NK (w.heap.size+1+1+1) (w.heap.size+1+1) wi wy ns os (· ∈af Le) (lps.take (k+1)) LC (bN LO l.root (.iface CT cx, .iface GT gx))):=Y0 fun wx wy hb hM hG=>by
            refine ⟨(hc.out.c.pure hb).grown hG (by intro e;injection e with e;omega),hM,fun r=> ?_,fun r=> ?_,(hc.out.chg.pure (hb.mono hsc)).grown hG (.inl (.inr rfl))⟩
            · rw [hc.out.kc r];unfold JA;constructor
              · rintro ⟨y,h1,h2⟩;exact ⟨y,(htk.out y).2 (.inr h1),h2⟩
              rintro ⟨y,h1,h2,h3,h4⟩;rcases (htk.out y).1 h1 with rfl|h1
              · rw [<-h2,HG.out.1] at h3;cases h3
              exact ⟨y,h1,h2,h3,h4⟩
            rw [bH,hc.out.ko r];unfold G6;constructor
            · rintro (rfl|⟨y,h1,h2⟩)
              · exact ⟨l,(htk.out l).2 (.inl rfl),rfl,n,HG.out.1,hm⟩
              exact ⟨y,(htk.out y).2 (.inr h1),h2⟩
            rintro ⟨y,h1,h2,h3⟩;rcases (htk.out y).1 h1 with rfl|h1
            · exact .inl h2.symm
            exact .inr ⟨y,h1,h2,h3⟩
           refine wp_region_held_drew (S:=(fun W=>W.cell? ⟨w2.heap.size,1,none⟩=some (.iface CT cx)/\W.cell? ⟨w.heap.size+1+1+1+1,4,none⟩=some (.map (some (w.heap.size+1+1))))) (by kernel_rfl) ?_ (fun hHeld=> ?_)
           · (try dsimp only)
             first|assumption|exact hS.out _ rfl rfl|exact iH
           refine ik [0,1,2,4,5] ?_;refine kq 3 (fun K hK=> ?_);refine ly rfl Gm.out nV.out.1 _ rfl rfl ?_;intro w4 hB;have nP:Hid (Below w3.heap.size w3 w4):=Y0 ((Below.refl _ _).drew.trans hB);have Gn:=nP.out.size;have NS:=hS.out w4 (nP.out.block _ (by omega)) (nP.out.block _ (by omega));clear hB;refine hK.out _ _ ?_ (fun hHeld=> ?_)
           · (try dsimp only)
             first|assumption|exact hS.out _ rfl rfl|exact iH
           clear hK K
           (try simp only [Act.put,aA,aB,aC])
           refine kq 6 (fun K hK=> ?_);refine EZ (F:=F) (c:=n.c.g.1) (g:=l.g) rfl _ _ _ rfl rfl rfl (HG.out.2.2.pure (fX.out.trans (nP.out.mono fX.out.size))) (tj HG.out.2.1) nV.out.2 ?_;intro w6 hB;rw [hm];have mD:Hid (Below w3.heap.size w3 w6):=Y0 (nP.out.trans (hB.mono nP.out.size));have Gp:=mD.out.size;have iH:=hS.out w6 (mD.out.block _ (by omega)) (mD.out.block _ (by omega));clear hB;refine hK.out _ _ ?_ (fun hHeld=> ?_)
           · (try dsimp only)
             first|assumption|exact hS.out _ rfl rfl|exact iH
           clear hK K
           (try simp only [Act.put,aA,aB,aC])
           refine ik [7] ?_;refine ve ?_;go_wp2;refine wp_region_held_drew (S:=(fun W=>W.cell? ⟨w2.heap.size,1,none⟩=some (.iface CT cx)/\W.cell? ⟨w.heap.size+1+1+1+1,4,none⟩=some (.map (some (w.heap.size+1+1))))) (by kernel_rfl) ?_ (fun hHeld=> ?_)
           · (try dsimp only)
             first|assumption|exact hS.out _ rfl rfl|exact iH
           refine ik [0,1,2,3,4,5] ?_;refine kq 6 (fun K hK=> ?_);refine ly rfl Gm.out nV.out.1 _ rfl rfl ?_;intro w7 hB;rw [M0];have r7:Hid (Below w3.heap.size w3 w7):=Y0 (mD.out.trans (((Below.refl _ _).drew.trans hB).mono mD.out.size));have SM:=r7.out.size;have Sm:=hS.out w7 (r7.out.block _ (by omega)) (r7.out.block _ (by omega));clear hB;refine hK.out _ _ ?_ (fun hHeld=> ?_)
           · (try dsimp only)
             first|assumption|exact hS.out _ rfl rfl|exact iH
           clear hK K
           (try simp only [Act.put,aA,aB,aC])
           refine ik [7] ?_;refine kq 8 (fun K hK=> ?_);refine nO (f:=tQ) (b:=(.iface CT cx, .iface GT gx)) (l:=LO) rfl _ _ _ 92 rfl _ _ underlying92 underlying110 rfl (hc.out.o.pure (fX.out.trans (r7.out.mono fX.out.size))) rfl rfl ?_;intro w9 BP jl ki;have H9:=Y3 BP jl ki;have hSe:=hS.out w9 ((jl.block _ (by omega) (by intro e;injection e with e;omega)).trans (r7.out.block _ (by omega))) ((jl.block _ (by omega) (by intro e;injection e with e;omega)).trans (r7.out.block _ (by omega)));clear BP jl;refine hK.out _ _ ?_ (fun hHeld=> ?_)
           · (try dsimp only)
             first|assumption|exact hS.out _ rfl rfl|exact iH
           clear hK K
           (try simp only [Act.put,aA,aB,aC])
           refine ve ?_;go_wp2;exact ⟨⟨k+1,LC,_,by go_num,by omega,Y0 (rW.out w7 w9 (fX.out.trans (r7.out.mono fX.out.size)) H9.out.1 H9.out.2.1)⟩,by simp [intOf];omega⟩
         have rW:Hid (∀(wx:World),Below wr.heap.size wr wx->NK (w.heap.size+1+1+1) (w.heap.size+1+1) wi wx ns os (· ∈af Le) (lps.take (k+1)) LC LO):=Y0 fun wx hb=>by
          refine ⟨hc.out.c.pure hb,hc.out.o.pure hb,fun r=> ?_,fun r=> ?_,hc.out.chg.pure (hb.mono hsc)⟩
          · rw [hc.out.kc r];unfold JA;constructor
            · rintro ⟨y,h1,h2⟩;exact ⟨y,(htk.out y).2 (.inr h1),h2⟩
            rintro ⟨y,h1,h2,h3,h4⟩;rcases (htk.out y).1 h1 with rfl|h1
            · rw [<-h2,HG.out.1] at h3;cases h3
            exact ⟨y,h1,h2,h3,h4⟩
          rw [hc.out.ko r];unfold G6;constructor
          · rintro ⟨y,h1,h2⟩;exact ⟨y,(htk.out y).2 (.inr h1),h2⟩
          rintro ⟨y,h1,h2,n',h3,h4⟩;rcases (htk.out y).1 h1 with rfl|h1
          · rw [<-h2,HG.out.1] at h3;rw [<-Option.some.inj h3,hm] at h4;cases h4
          exact ⟨y,h1,h2,n',h3,h4⟩
         refine wp_region_held_drew (S:=(fun W=>W.cell? ⟨w2.heap.size,1,none⟩=some (.iface CT cx)/\W.cell? ⟨w.heap.size+1+1+1+1,4,none⟩=some (.map (some (w.heap.size+1+1))))) (by kernel_rfl) ?_ (fun hHeld=> ?_)
         · (try dsimp only)
           first|assumption|exact hS.out _ rfl rfl|exact iH
         refine ik [0,1,2,4,5] ?_;refine kq 3 (fun K hK=> ?_);refine ly rfl Gm.out nV.out.1 _ rfl rfl ?_;intro w4 hB;have nP:Hid (Below w3.heap.size w3 w4):=Y0 ((Below.refl _ _).drew.trans hB);have Gn:=nP.out.size;have NS:=hS.out w4 (nP.out.block _ (by omega)) (nP.out.block _ (by omega));clear hB;refine hK.out _ _ ?_ (fun hHeld=> ?_)
         · (try dsimp only)
           first|assumption|exact hS.out _ rfl rfl|exact iH
         clear hK K
         (try simp only [Act.put,aA,aB,aC])
         refine kq 6 (fun K hK=> ?_);refine EZ (F:=F) (c:=n.c.g.1) (g:=l.g) rfl _ _ _ rfl rfl rfl (HG.out.2.2.pure (fX.out.trans (nP.out.mono fX.out.size))) (tj HG.out.2.1) nV.out.2 ?_;intro w6 hB;rw [hm];have mD:Hid (Below w3.heap.size w3 w6):=Y0 (nP.out.trans (hB.mono nP.out.size));have Gp:=mD.out.size;have iH:=hS.out w6 (mD.out.block _ (by omega)) (mD.out.block _ (by omega));clear hB;refine hK.out _ _ ?_ (fun hHeld=> ?_)
         · (try dsimp only)
           first|assumption|exact hS.out _ rfl rfl|exact iH
         clear hK K
         (try simp only [Act.put,aA,aB,aC])
         refine ik [7] ?_;refine ve ?_;go_wp2;exact ⟨⟨k+1,LC,LO,by go_num,by omega,Y0 (rW.out w6 (fX.out.trans (mD.out.mono fX.out.size)))⟩,by simp [intOf];omega⟩
       have hlt':¬(k:Int)<(lps.length:Int):=by omega
       have SN:lps.take k=lps:=List.take_of_length_le (by omega);have hc1:=hc.out;rw [SN] at hc1;have HU:=Y0 hc1;obtain ⟨MA,NM,YS⟩:=Ha.out.om.form;obtain ⟨EA,NN,YT⟩:=Ha.out.oe.form;subst YS YT;have hsw:wi.heap.size<=wr.heap.size:=hc1.chg.size;have hrow:Hid (av wr (w.heap.size+1+1+1+1) #[.bool true, .slice MA ML.length NM, .slice EA EL.length NN, .map (some (w.heap.size+1+1+1)), .map (some (w.heap.size+1+1))] 94/\av wr (w.heap.size+1) qa 94):=Y0 ⟨HU.out.chg.row Ha.out.row (by intro h;rcases h with h|h<;>omega),HU.out.chg.row OT.out.1 (by intro h;rcases h with h|h<;>omega)⟩;clear hc hc1 SN
       have hfin:∀(c:Act) (W6:World),Hid (av W6 (w.heap.size+1) #[.bool true, .slice MA ML.length NM, .slice EA EL.length NN, .map (some (w.heap.size+1+1+1)), .map (some (w.heap.size+1+1))] 94/\W6.heap.size=wr.heap.size/\(∀k,k≠w.heap.size+1->W6.heap[k]?=wr.heap[k]?)/\Below (w.heap.size+1) wr W6)->c.tmps.getD 6 undef= .pointer (some ⟨w.heap.size+1,0,none⟩)->c.defers= []->bodyPost Tryz.prog Tryz.f34 (AG F root ig pks rq ins ns os lps w) Exit.ret c W6:=fun c W6 H6 hp zz=>by
        refine bodyPost_ret (df (p:=6) results34 c.tmps W6 (w.heap.size+1) 94 _ (0,0) _ hp H6.out.1 underlying94 rfl rU) zz ?_;have OI:∀b,b≠w.heap.size+1->W6.heap[b]?=wr.heap[b]?:=fun b hb=>H6.out.2.2.1 b hb
        have hown:∀{v:Value} {L:List aa} {G:Nat->Prop},Own aD w8.heap.size 9 G wi v L->bK F W6 v L:=fun {v L G} h=>by
         refine (aX (F':=fun _=>True) h (fun j hj=> ?_) (fun _ _=>trivial)).rd (fun b hb=>by have:=hF5.out b hb;omega) (fun _ _=>trivial) (by decide);have h1:=ak h hj;exact (OI j (by omega)).trans (HU.out.chg.fr j h1.2.2.1 (by intro h;rcases h with h|h<;>omega))
        have IY:ML.length<=1000000/\EL.length<=1000000:=by have h:=Ha.out.len;omega
        have K5:∀{l:List (aa × (Value × Value))},(af l).Nodup->(∀r∈af l,r∈lps.map (·.root))->l.length<=1000000:=fun {l} h1 h2=>by
         have h3:=bQ h1 h2;simp [af] at h3;omega
        refine YO rfl (hown Ha.out.om) (hown Ha.out.oe) (HU.out.c.keep (OI _ (by omega))) (HU.out.o.keep (OI _ (by omega))) ?_ ⟨IY.1,IY.2,K5 HU.out.c.nodup (fun r hr=> ?_),K5 HU.out.o.nodup (fun r hr=> ?_)⟩ (fun hN=> ?_)
        · exact YY.out.trans (H6.out.2.2.2.mono (by omega))
        · obtain ⟨l,h1,h2,_⟩:=(HU.out.kc r).1 hr;exact List.mem_map.2 ⟨l,h1,h2⟩
        · obtain ⟨l,h1,h2,_⟩:=(HU.out.ko r).1 hr;exact List.mem_map.2 ⟨l,h1,h2⟩
        have hm:=Ha.out.m;have he:=Ha.out.e;rw [List.take_length] at hm he;refine JB (fun x=> ?_) UY.out.1 KZ.out.2.1.get hm he hEf.out (oQ rO.out.na) HU.out.kc HU.out.ko;rw [KZ.out.1.key x];unfold NC;rw [NH.out.2.1 hN x]
       have uX:=Y0 hfin;clear hfin;go_upto_region 61 with fail;have y0:wr.cell? ⟨w.heap.size+1+1+1+1,0,none⟩=_:=ae hrow.out.1 rfl;have y1:wr.cell? ⟨w.heap.size+1+1+1+1,1,none⟩=_:=ae hrow.out.1 rfl;have y2:wr.cell? ⟨w.heap.size+1+1+1+1,2,none⟩=_:=ae hrow.out.1 rfl;have y3:wr.cell? ⟨w.heap.size+1+1+1+1,3,none⟩=_:=ae hrow.out.1 rfl;have y4:wr.cell? ⟨w.heap.size+1+1+1+1,4,none⟩=_:=ae hrow.out.1 rfl;have flag:True:=trivial
       go_wp2_with (first
        | (clear flag;refine oL (o:=⟨none,Op.store 94 (Operand.tmp 6) (Operand.tmp 216),_,_,_,_⟩) (cs:= #[.bool true, .slice MA ML.length NM, .slice EA EL.length NN, .map (some (w.heap.size+1+1+1)), .map (some (w.heap.size+1+1))]) (old:=qa) rfl _ _ rfl (w.heap.size+1) rfl rfl hrow.out.2 rU rfl (by simp [Value.oneCell']) ?_;intro W6 H6;go_frame;refine wpList_nil ?_;dsimp only [Exit.then];apply_assumption;exact wp_ret (uX.out _ W6 H6 rfl rfl)))
end Go.Proofs.YtjenhelmpcajfaaGreatDoor
