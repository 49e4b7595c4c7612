/- the search: more ways -/
import Derived.Test.YtjenhelmpcajfaaGreatDoorA30
set_option linter.all false
set_option maxRecDepth 20000
set_option maxHeartbeats 8000000
namespace Go.Proofs.YtjenhelmpcajfaaGreatDoor
open Go.Proofs.Tryz Go.RowKit
theorem Rh (w:World):(zeroValue 230).run Tryz.prog w= .ok (.agg #[.nilIface, .map none, .map none]) w:=by kernel_rfl
theorem BL:Tryz.prog.underlying 22=some (.slice 9):=underlying22
theorem Ag:∃i,Tryz.prog.info? 9=some i/\i.zero=some (.string ⟨#[]⟩)/\i.size=1/\i.bytes=16:=by
 have h:=eA;obtain ⟨i,hi,hz⟩:=Option.map_eq_some_iff.1 h;simp only [Prod.mk.injEq] at hz;exact ⟨i,hi,hz.1,hz.2.1,hz.2.2⟩
section
variable {s:Sp} {root:aa} {ig:List aa} {pks:List Pk} {fv:Value} {w w':World} {C XS IS:List (aa × Nat)} {E:List (aa × Value)} {K:Nat->List (aa × Unit)}
theorem gM.own (h:gM s pks w C XS IS E K) {F:Nat->Prop} {v:Value} {l:List aa} {lo:Nat} (hO:Own aD lo 9 F w v l) (hg:w.grownBy w' v.ownBlock):gM s pks w' C XS IS E K:=by
 have hne:∀{β:Type} {f:β->Value} {b:Nat} {k:List (aa × β)},ah f w b k->v.ownBlock≠some b:=fun {β f b k} hM e=>by
  obtain ⟨_,_,_,cur,h1⟩:=ak hO e;obtain ⟨es,c,h2,_⟩:=hM;rw [h1] at h2;cases h2
 exact ⟨h.cm.grown hg (hne h.cm),h.xm.grown hg (hne h.xm),h.im.grown hg (hne h.im),h.em.grown hg (hne h.em),fun b hb=>⟨(h.ks b hb).1,(h.ks b hb).2.1.grown hg (hne (h.ks b hb).2.1),(h.ks b hb).2.2⟩,h.nd,h.same,h.cc⟩
end
theorem MV {s:Sp} {root:aa} {ig:List aa} {pks:List Pk} {fv:Value} {C XS IS:List (aa × Nat)} {E:List (aa × Value)} {K:Nat->List (aa × Unit)} (p:aa) (v:Value) (path:List aa) (w:World) (hS:nE s root ig pks fv w) (hD:gM s pks w C XS IS E K)
 (hF:sG root ig pks path (bw C) (fx XS K)) (hO:Own aD s.lo 9 (fun b=>v.ownBlock=some b) w v path) (hl:path.length<=1000000) (hp:bw C p=0) (hb:∀q,¬fL ig pks p q):
 Calls Tryz.prog 135 (s.args p v) w fun e w'=>nH s root ig pks path p v w C XS K e w':=by
 obtain ⟨A,cap,hv⟩:=hO.form;generalize hnl:path.length=n at hv;subst hv;obtain ⟨i9,UB,Jc,Jd,Je⟩:=Ag
 have hc1:ai C p=none:=by
  unfold bw at hp
  cases hg:ai C p with
  | none=>rfl
  | some c=>rw [hg] at hp;rcases hD.cc p c hg with rfl|rfl<;>simp at hp
 have iD:(((ai C p).map jg).getD (.int .u8 0))= .int .u8 0:=by rw [hc1];rfl
 obtain ⟨WM,Ri,FD,_⟩:=hS.wm
 have XH:∀me mi,ai WM p≠some (.good me mi):=fun me mi h=>by
  obtain ⟨q,_,_,hq,_⟩:=FD p me mi h;exact hb q hq
 have HD:=Y0 hD;have HS:=Y0 hS;have HO:=Y0 hO;have UD:=Y0 Ri;have x2:=cellAt (j:=0) hS.c2 rfl;have hz:=z5;have hz3:=Rh;have HF:=Y0 hF;have HC:=Y0 hp;have HB:=Y0 hb;clear hS hD hF hO hp hb Ri FD
 cases hg:ai WM p with
 | none=>
   have OO:(((ai WM p).map nD.val).getD (.agg #[.nilIface, .map none, .map none]))= .agg #[.nilIface, .map none, .map none]:=by rw [hg];rfl
   have CU:(ai WM p).isSome=false:=by rw [hg];rfl
   clear hg XH;unfold Sp.args;go_enter func135,ntmps135
   go_wp2_with (first
    | (revert iD;intro fu;refine bL (o:=⟨some 47,_,_,_,_,_⟩) (f:=jg) rfl _ _ 288 rfl _ _ underlying288 underlying9 (.int .u8 0) hz rfl HD.out.cm rfl ?_;rw [fu];clear fu;have dh:True:=trivial;go_frame)
    | (clear dh;refine aM (f:=jg) (b:=1) rfl _ _ _ 288 rfl _ _ underlying288 underlying9 rfl HD.out.cm rfl rfl ?_;intro w1 Bt FE hs1;have KF:=Y0 (HD.out.setC HS.out.ml HS.out.mn FE Bt (.inl rfl));have kv:=Y0 ((Fr.refl s n (.slice A n cap) w).touch HS.out.lo FE (.inr (HD.out.objM (by simp [Sp.maps]))));have nU:=Y0 (HS.out.fr kv.out);have y3:=cellAt (j:=0) nU.out.c3 rfl;have FH:=Y0 (UD.out.keep (kv.out.stat s.wb (HS.out.st _ (by simp))));have hb3:Below w1.heap.size w1 ((w1.alloc (.cells #[.nilIface, .map none, .map none] 230)).alloc (.cells #[.string p] 9)):=((Below.refl _ _).alloc (Nat.le_refl _) _).alloc (by simp) _;have vK:=Y0 (kv.out.pure HS.out.lo (hb3.mono kv.out.size));have KG:=Y0 (vK.out.path HO.out (fun _=>by omega));have Hx:=Y0 (KF.out.pure hb3);have FI:Hid (s.lo<=((w1.alloc (.cells #[.nilIface, .map none, .map none] 230)).alloc (.cells #[.string p] 9)).heap.size):=Y0 (by have:=vK.out.size;have:=HS.out.lo;omega);have Ko:Hid (((w1.alloc (.cells #[.nilIface, .map none, .map none] 230)).alloc (.cells #[.string p] 9)).cell? ⟨w1.heap.size+1,0,none⟩=some (.string p)):=Y0 (cellAt (j:=0) (by have h:=heap_alloc_new (w1.alloc (.cells #[.nilIface, .map none, .map none] 230)) (.cells #[.string p] 9);rwa [World.size_alloc] at h) rfl);have FJ:Hid (((w1.alloc (.cells #[.nilIface, .map none, .map none] 230)).alloc (.cells #[.string p] 9)).heap[w1.heap.size]?=some (.cells #[.nilIface, .map none, .map none] 230 (0,0))):=Y0 ((Below.heap_alloc _ _ _ (by simp)).trans (heap_alloc_new _ _));have CV:Hid (w1.heap.size<((w1.alloc (.cells #[.nilIface, .map none, .map none] 230)).alloc (.cells #[.string p] 9)).heap.size):=Y0 (by simp;omega);have hvb:Hid (∀b,(Value.slice A n cap).ownBlock=some b->b<w1.heap.size):=Y0 (fun b hb=>by have h1:=(ak HO.out hb).2.2.1;have h2:=kv.out.size;omega);clear Bt FE hs1 hb3;go_frame)
    | (revert OO;intro fu;refine bA (o:=⟨some 56,_,_,_,_,_⟩) (f:=nD.val) rfl _ _ 228 rfl _ _ underlying228 underlying9 (.agg #[.nilIface, .map none, .map none]) hz3 rfl FH.out rfl ?_;rw [fu,CU];clear fu;have jh:True:=trivial;go_frame)
    | (clear jh;refine gL (o:=⟨some 62,_,_,_,_,_⟩) rfl _ _ rfl BL i9 UB Jc Jd Je rfl KG.out ⟨w1.heap.size+1,0,none⟩ 1 p rfl Ko.out hl FI.out rfl n hnl ?_;intro g cap' w4 mM sD zu uL;have CW:=Y0 (vK.out.push HS.out.lo (ak mM rfl).2.1 sD uL);have GZ:=Y0 (Hx.out.own KG.out sD);have MW:=Y0 (HS.out.fr CW.out);have y4:w4.cell? ⟨s.c4,0,none⟩=some (.bool false):=cellAt (j:=0) MW.out.c4 rfl;have y2:w4.cell? ⟨s.c2,0,none⟩=some (.map (some s.cm)):=cellAt (j:=0) MW.out.c2 rfl;have Bc:=(sD.block w1.heap.size CV.out (fun e=>by have:=hvb.out _ e.symm;omega)).trans FJ.out;have MX:w4.cell? ⟨w1.heap.size,0,none⟩=some .nilIface:=cellAt (j:=0) Bc rfl;clear mM sD zu uL Bc;have Ah:True:=trivial;go_frame)
    | (clear Ah;refine aM (f:=jg) (b:=2) rfl _ _ _ 288 rfl _ _ underlying288 underlying9 rfl GZ.out.cm rfl rfl ?_;intro w8 kU jV ke;have Rj:=Y0 (GZ.out.setC HS.out.ml HS.out.mn jV kU (.inr rfl));have Rk:=Y0 (CW.out.touch HS.out.lo jV (.inr (HD.out.objM (by simp [Sp.maps]))));clear kU jV ke;go_frame))
   go_ret;refine ⟨⟨_,rfl⟩,by rw [hnl];exact Rk.out,_,_,_,_,_,Rj.out, ?_⟩
   have hce:bw (bN (bN C p 1) p 2)=upd (bw C) p 2:=by
    funext t;rw [gX];unfold upd;by_cases e:t=p
    · simp [e]
    rw [if_neg e,if_neg e,gX,upd_ne _ _ _ _ e]
   rw [hce]
   exact iE.bad HF.out HC.out HB.out
 | some xv=>
   cases xv with
   | good me mi=>exact absurd hg (XH me mi)
   | bad T x=>
     have OO:(((ai WM p).map nD.val).getD (.agg #[.nilIface, .map none, .map none]))= .agg #[.iface T x, .map none, .map none]:=by rw [hg];rfl
     have CU:(ai WM p).isSome=true:=by rw [hg];rfl
     clear hg XH;unfold Sp.args;go_enter func135,ntmps135
     go_wp2_with (first
      | (revert iD;intro fu;refine bL (o:=⟨some 47,_,_,_,_,_⟩) (f:=jg) rfl _ _ 288 rfl _ _ underlying288 underlying9 (.int .u8 0) hz rfl HD.out.cm rfl ?_;rw [fu];clear fu;have dh:True:=trivial;go_frame)
      | (clear dh;refine aM (f:=jg) (b:=1) rfl _ _ _ 288 rfl _ _ underlying288 underlying9 rfl HD.out.cm rfl rfl ?_;intro w1 Bt FE hs1;have KF:=Y0 (HD.out.setC HS.out.ml HS.out.mn FE Bt (.inl rfl));have kv:=Y0 ((Fr.refl s n (.slice A n cap) w).touch HS.out.lo FE (.inr (HD.out.objM (by simp [Sp.maps]))));have nU:=Y0 (HS.out.fr kv.out);have y3:=cellAt (j:=0) nU.out.c3 rfl;have FH:=Y0 (UD.out.keep (kv.out.stat s.wb (HS.out.st _ (by simp))));have hb3:Below w1.heap.size w1 ((w1.alloc (.cells #[.iface T x, .map none, .map none] 230)).alloc (.cells #[.string p] 9)):=((Below.refl _ _).alloc (Nat.le_refl _) _).alloc (by simp) _;have vK:=Y0 (kv.out.pure HS.out.lo (hb3.mono kv.out.size));have KG:=Y0 (vK.out.path HO.out (fun _=>by omega));have Hx:=Y0 (KF.out.pure hb3);have FI:Hid (s.lo<=((w1.alloc (.cells #[.iface T x, .map none, .map none] 230)).alloc (.cells #[.string p] 9)).heap.size):=Y0 (by have:=vK.out.size;have:=HS.out.lo;omega);have Ko:Hid (((w1.alloc (.cells #[.iface T x, .map none, .map none] 230)).alloc (.cells #[.string p] 9)).cell? ⟨w1.heap.size+1,0,none⟩=some (.string p)):=Y0 (cellAt (j:=0) (by have h:=heap_alloc_new (w1.alloc (.cells #[.iface T x, .map none, .map none] 230)) (.cells #[.string p] 9);rwa [World.size_alloc] at h) rfl);have FJ:Hid (((w1.alloc (.cells #[.iface T x, .map none, .map none] 230)).alloc (.cells #[.string p] 9)).heap[w1.heap.size]?=some (.cells #[.iface T x, .map none, .map none] 230 (0,0))):=Y0 ((Below.heap_alloc _ _ _ (by simp)).trans (heap_alloc_new _ _));have CV:Hid (w1.heap.size<((w1.alloc (.cells #[.iface T x, .map none, .map none] 230)).alloc (.cells #[.string p] 9)).heap.size):=Y0 (by simp;omega);have hvb:Hid (∀b,(Value.slice A n cap).ownBlock=some b->b<w1.heap.size):=Y0 (fun b hb=>by have h1:=(ak HO.out hb).2.2.1;have h2:=kv.out.size;omega);clear Bt FE hs1 hb3;go_frame)
      | (revert OO;intro fu;refine bA (o:=⟨some 56,_,_,_,_,_⟩) (f:=nD.val) rfl _ _ 228 rfl _ _ underlying228 underlying9 (.agg #[.nilIface, .map none, .map none]) hz3 rfl FH.out rfl ?_;rw [fu,CU];clear fu;have jh:True:=trivial;go_frame)
      | (clear jh;refine gL (o:=⟨some 62,_,_,_,_,_⟩) rfl _ _ rfl BL i9 UB Jc Jd Je rfl KG.out ⟨w1.heap.size+1,0,none⟩ 1 p rfl Ko.out hl FI.out rfl n hnl ?_;intro g cap' w4 mM sD zu uL;have CW:=Y0 (vK.out.push HS.out.lo (ak mM rfl).2.1 sD uL);have GZ:=Y0 (Hx.out.own KG.out sD);have MW:=Y0 (HS.out.fr CW.out);have y4:w4.cell? ⟨s.c4,0,none⟩=some (.bool false):=cellAt (j:=0) MW.out.c4 rfl;have y2:w4.cell? ⟨s.c2,0,none⟩=some (.map (some s.cm)):=cellAt (j:=0) MW.out.c2 rfl;have Bc:=(sD.block w1.heap.size CV.out (fun e=>by have:=hvb.out _ e.symm;omega)).trans FJ.out;have MX:w4.cell? ⟨w1.heap.size,0,none⟩=some (.iface T x):=cellAt (j:=0) Bc rfl;have y6:w4.cell? ⟨s.c6,0,none⟩=some (.map (some s.em)):=cellAt (j:=0) MW.out.c6 rfl;clear mM sD zu uL Bc;have pB:Below w4.heap.size w4 (w4.alloc (.cells #[.string p, .slice none 0 0, .iface T x] 292)):=((Below.refl _ _).alloc (Nat.le_refl _) _);have T7:=Y0 (GZ.out.pure pB);have HF5:=Y0 (CW.out.pure HS.out.lo (pB.mono CW.out.size));clear pB;have rK:True:=trivial;go_frame)
      | (clear rK;refine aM (f:=Xz) (b:= .pointer (some ⟨w4.heap.size,0,none⟩)) rfl _ _ _ 160 rfl _ _ underlying160 underlying9 rfl T7.out.em rfl rfl ?_;intro w6 Qt zO iO;have Om:=Y0 (T7.out.setE HS.out.ml HS.out.mn zO Qt);have HF6:=Y0 (HF5.out.touch HS.out.lo zO (.inr (HD.out.objM (by simp [Sp.maps]))));have HS6:=Y0 (HS.out.fr HF6.out);have y2':=cellAt (j:=0) HS6.out.c2 rfl;clear Qt zO iO;have Ah:True:=trivial;go_frame)
      | (clear Ah;refine aM (f:=jg) (b:=2) rfl _ _ _ 288 rfl _ _ underlying288 underlying9 rfl Om.out.cm rfl rfl ?_;intro w8 kU jV ke;have Rj:=Y0 (Om.out.setC HS.out.ml HS.out.mn jV kU (.inr rfl));have Rk:=Y0 (HF6.out.touch HS.out.lo jV (.inr (HD.out.objM (by simp [Sp.maps]))));clear kU jV ke;go_frame))
     go_ret;refine ⟨⟨_,rfl⟩,by rw [hnl];exact Rk.out,_,_,_,_,_,Rj.out, ?_⟩
     have hce:bw (bN (bN C p 1) p 2)=upd (bw C) p 2:=by
      funext t;rw [gX];unfold upd;by_cases e:t=p
      · simp [e]
      rw [if_neg e,if_neg e,gX,upd_ne _ _ _ _ e]
     rw [hce];exact iE.bad HF.out HC.out HB.out
section
variable {s:Sp} {root:aa} {ig:List aa} {pks:List Pk} {fv:Value} {w w':World} {C XS IS:List (aa × Nat)} {E:List (aa × Value)} {K:Nat->List (aa × Unit)}
theorem nK {l:List (aa × Nat)} {p:aa} {b:Nat} (h:ai l p=none):bN l p b=l++ [(p,b)]:=by
 rcases nW (l:=l) (s:=p) (v:=b) with ⟨h1,_⟩|⟨_,h2⟩
 · exact absurd h1 (fO.1 h)
 exact h2
theorem gM.lt (h:gM s pks w C XS IS E K) {b:Nat} (hb:b∈XS.map (·.2)++IS.map (·.2)):b<w.heap.size:=(h.ks b hb).2.1.lt
theorem gM.push (h:gM s pks w C XS IS E K) (BJ:∀b∈s.maps,b<s.lo) (hn:s.maps.Nodup) (hlo:s.lo<=w.heap.size) {p:aa} {r ri:Nat} {Kr Ki:List (aa × Unit)} (hp:ai XS p=none) (hr1:w.heap.size<=r) (hr2:w.heap.size<=ri) (hne:r≠ri)
 (hx:ah ek w' s.xm (bN XS p r)) (hi:ah ek w' s.im (bN IS p ri)) (hr:ah bY w' r Kr) (hri:ah bY w' ri Ki) (old:∀b,b<w.heap.size->b≠s.xm->b≠s.im->w'.heap[b]?=w.heap[b]?)
 (k1:∀x∈af Kr,x∈bT pks) (k2:∀x∈af Ki,x∈bT pks):gM s pks w' C (bN XS p r) (bN IS p ri) E (eZ (eZ K r Kr) ri Ki):=by
 obtain ⟨n1,n2,n3,n4,n5,n6⟩:=lG hn
 have hpi:ai IS p=none:=by
  have:=h.same p;rw [hp] at this
  cases hg:ai IS p with
  | none=>rfl
  | some c=>rw [hg] at this;cases this
 have hbig:∀b∈XS.map (·.2)++IS.map (·.2),b≠r/\b≠ri/\b≠s.xm/\b≠s.im:=fun b hb=>by
  have h1:=h.lt hb;have h2:=(h.ks b hb).1;have h3:=BJ s.xm (by simp [Sp.maps]);have h4:=BJ s.im (by simp [Sp.maps]);omega
 have hks:∀b∈XS.map (·.2)++IS.map (·.2),s.lo<=b/\ah bY w' b (eZ (eZ K r Kr) ri Ki b)/\∀x∈af (eZ (eZ K r Kr) ri Ki b),x∈bT pks:=fun b hb=>by
  obtain ⟨e1,e2,e3,e4⟩:=hbig b hb;obtain ⟨a1,a2,a3⟩:=h.ks b hb;simp only [eZ,if_neg e1,if_neg e2];exact ⟨a1,a2.keep (old b a2.lt e3 e4),a3⟩
 refine ⟨h.cm.keep (old _ h.cm.lt n2 n3),hx,hi,h.em.keep (old _ h.em.lt n4 n5), ?_, ?_,fun t=> ?_,h.cc⟩
 · rw [nK hp,nK hpi];intro b hb;simp only [List.map_append,List.map_cons,List.map_nil,List.mem_append,List.mem_singleton] at hb;rcases hb with (hb|rfl)|(hb|rfl)
   · exact hks b (List.mem_append_left _ hb)
   · simp only [eZ,if_neg hne,if_pos];exact ⟨by omega,hr,k1⟩
   · exact hks b (List.mem_append_right _ hb)
   simp only [eZ,if_pos];exact ⟨by omega,hri,k2⟩
 · intro hr;rw [nK hp,nK hpi];simp only [List.map_append,List.map_cons,List.map_nil];have h0:=List.nodup_append.1 (h.nd hr);rw [List.nodup_append,List.nodup_append,List.nodup_append];refine ⟨⟨h0.1,by simp,fun a ha b hb=> ?_⟩,⟨h0.2.1,by simp,fun a ha b hb=> ?_⟩,fun a ha b hb=> ?_⟩
   · have e:b=r:=by simpa using hb
     rw [e];exact (hbig a (List.mem_append_left _ ha)).1
   · have e:b=ri:=by simpa using hb
     rw [e];exact (hbig a (List.mem_append_right _ ha)).2.1
   rcases List.mem_append.1 ha with ha|ha<;>rcases List.mem_append.1 hb with hb|hb
   · exact h0.2.2 a ha b hb
   · have e:b=ri:=by simpa using hb
     rw [e];exact (hbig a (List.mem_append_left _ ha)).2.1
   · have e:a=r:=by simpa using ha
     rw [e];exact (hbig b (List.mem_append_right _ hb)).1.symm
   have e:a=r:=by simpa using ha
   have e2:b=ri:=by simpa using hb
   rw [e,e2];exact hne
 rw [bk,bk];split
 · rfl
 exact h.same t
theorem FM (h:gM s pks w C XS IS E K) {p:aa} {r ri:Nat} {Kr Ki:List (aa × Unit)} (hr1:w.heap.size<=r) (hr2:w.heap.size<=ri) (hne:r≠ri) (t:aa):fx (bN XS p r) (eZ (eZ K r Kr) ri Ki) t=if t=p then some (af Kr) else fx XS K t:=by
 unfold fx;rw [bk];by_cases e:p=t
 · subst e;simp [eZ,hne]
 rw [if_neg e,if_neg (Ne.symm e)]
 cases ht:ai XS t with
 | none=>rfl
 | some c=>
   have:=h.lt (h.bx ht);have e1:c≠r:=by omega
   have e2:c≠ri:=by omega
   simp [eZ,e1,e2]
theorem Fr.down {n:Nat} {v v1:Value} {w1 w2:World} (h:Fr s n v w w1) (k:Fr s (n+1) v1 w1 w2) (hv:∀g,v.ownBlock=some g->s.lo<=g) (h1:v1.ownBlock=v.ownBlock\/∃g,v1.ownBlock=some g/\w.heap.size<=g):Fr s n v w w2:=by
 have hlt:∀{b:Nat} {o:Obj},w.heap[b]?=some o->b<w.heap.size:=fun h=>(Array.getElem?_eq_some_iff.1 h).1
 refine ⟨h.env.trans k.env,Nat.le_trans h.size k.size,fun b hb=>(k.stat b hb).trans (h.stat b hb),fun b o a1 a2 a3 a4=>k.cells b o a1 (h.cells b o a1 a2 a3 a4) a3 (fun e=> ?_),fun g cur a1 a2=> ?_⟩
 · rcases h1 with h1|⟨g,h1,h2⟩
   · exact a4 (by rw [<-h1];exact e)
   rw [h1] at e;injection e with e
   have:=hlt a2;omega
 obtain ⟨c1,b1,b2,b3⟩:=h.own g cur a1 a2;rcases h1 with h1|⟨g',h1,h2⟩
 · obtain ⟨c2,d1,d2,d3⟩:=k.own g c1 (by rw [h1];exact a1) b1;refine ⟨c2,d1,d2.trans b2, ?_⟩;have h3:=congrArg (List.take n) d3;rw [List.take_take,List.take_take,Nat.min_eq_left (by omega)] at h3;exact h3.trans b3
 refine ⟨c1,k.cells g _ (hv g a1) b1 (by intro es c e;cases e) (fun e=> ?_),b2,b3⟩;rw [h1] at e;injection e with e
 have:=hlt a2;omega
end
def Sp.fv (s:Sp):Value:= .func (.func 135) #[] #[cp s.c2,cp s.c3,cp s.c4,cp s.c5,cp s.c6,cp s.c7,cp s.c8,cp s.c9,cp s.c10]
def wh (ig:List aa) (pks:List Pk) (jv:aa->Nat):Nat:=(pks.filter fun q=>cX ig q && decide (jv q.path=0)).length
theorem Rl {ig:List aa} {pks:List Pk} {jv sH:aa->Nat} {p:aa} {q:Pk} (hq:fL ig pks p q) (h0:jv p=0) (h1:sH p≠0) (hs:∀t,sH t=0->jv t=0):wh ig pks sH<wh ig pks jv:=by
 unfold wh;obtain ⟨hpq,MZ⟩:=cD hq.1;have hc:=hq.2;obtain ⟨a,b,rfl⟩:=List.append_of_mem MZ
 have hle:∀l:List Pk,(l.filter fun q=>cX ig q && decide (sH q.path=0)).length<=(l.filter fun q=>cX ig q && decide (jv q.path=0)).length:=fun l=>by
  induction l with
  | nil=>simp
  | cons x l ih=>
    simp only [List.filter_cons];by_cases hx:cX ig x=true/\sH x.path=0
    · rw [if_pos (by simp [hx.1,hx.2]),if_pos (by simp [hx.1,hs _ hx.2])];simpa using ih
    rw [if_neg (by simpa using hx)];split
    · simp;omega
    exact ih
 have e1:=hle a;have e2:=hle b;simp only [List.filter_append,List.filter_cons,List.length_append];rw [if_neg (by rw [hpq];simp [h1]),if_pos (by rw [hpq];simp [hc,h0])];simp only [List.length_cons];omega
end Go.Proofs.YtjenhelmpcajfaaGreatDoor
