/- the manifest's and the lock's methods -/
import Derived.Test.YtjenhelmpcajfaaGreatDoorA36
set_option linter.all false
set_option maxRecDepth 20000
set_option maxHeartbeats 8000000
namespace Go.Proofs.YtjenhelmpcajfaaGreatDoor
open Go.Proofs.Tryz Go.RowKit
theorem Trie.beside {w w':World} {lo bx tb m sz:Nat} {g:gF} (h:Trie w lo bx tb m g sz) (hg:w.grownBy w' (some bx)):Trie w' lo bx tb m g sz:=by
 obtain ⟨n0,leaf,ev,sub,hT,h1,h2,h3,h4,h5⟩:=h;have hn:=Trie.node (lo:=0) (bx:=0) (m:=0) (g:=fun _=>none) hT
 have hne:∀b∈tb::bF n0 leaf ev sub,(some bx:Option Nat)≠some b:=fun b hb e=>by
  injection e with e
  exact (h4 b hb).2 e.symm
 have hN:cA w' n0 ⟨#[]⟩ leaf ev sub:=hn.keep fun b hb'=>hg.block b (hn.lt b hb') (fun e=>hne b (List.mem_cons_of_mem _ hb') e.symm)
 have ht:w'.heap[tb]?=some (.cells #[.pointer (some ⟨n0,0,none⟩), .int .i64 sz] 241 (0,0)):=by
  rw [hg.block tb (Array.getElem?_eq_some_iff.1 hT.tree).1 (fun e=>hne tb (List.mem_cons_self ..) e.symm)];exact hT.tree
 exact ⟨n0,leaf,ev,sub,⟨ht,hN.1,hN.2.1,hN.2.2.1,hN.2.2.2⟩,h1,h2,h3,h4,h5⟩
structure BR {β:Type} (La left:List (aa × β)) (g:gF):Prop where
 src:∀p k v,g p=some (k,v)->cY k=p/\k∈af La
 cov:∀r∈af La,r∈af left\/(g (cY r)).isSome=true
theorem BR.put {β:Type} {La left left':List (aa × β)} {g:gF} (h:BR La left g) {s:aa} {b:β} (hs:s∈af La) (ba:∀p,p∈left↔p=(s,b)\/p∈left') (v:Value):BR La left' (g.put s v) where
 src:=fun p k u hp=>by
  unfold gF.put at hp;split at hp
  · rename_i e;simp only [Option.some.injEq,Prod.mk.injEq] at hp;rw [<-hp.1];exact ⟨e.symm,hs⟩
  exact h.src p k u hp
 cov:=fun r hr=>by
  unfold gF.put;by_cases e:cY r=s.data.toList
  · right;rw [if_pos e];rfl
  rw [if_neg e];rcases h.cov r hr with h1|h1
  · left;obtain ⟨q,hq,rfl⟩:=List.mem_map.1 h1;rcases (ba q).1 hq with rfl|h2
    · exact absurd rfl e
    exact List.mem_map.2 ⟨q,h2,rfl⟩
  exact .inr h1
theorem gY {β:Type} {left left':List (aa × β)} {s:aa} {b:β} (ba:∀p,p∈left↔p=(s,b)\/p∈left') (x:aa):x∈af left↔x=s\/x∈af left':=by
 simp only [af,List.mem_map];constructor
 · rintro ⟨q,hq,rfl⟩;rcases (ba q).1 hq with rfl|h
   · exact .inl rfl
   exact .inr ⟨q,h,rfl⟩
 rintro (rfl|⟨q,hq,rfl⟩)
 · exact ⟨_,(ba _).2 (.inl rfl),rfl⟩
 exact ⟨q,(ba q).2 (.inr hq),rfl⟩
structure rR (R:List aa) (LI left Le:List (aa × Bool)):Prop where
 val:∀r b,ai Le r=some b->b=true
 key:∀r,r∈af Le↔∃x∈af LI,x∉af left/\longest R x=r/\r≠ByteArray.empty
theorem rR.none {R:List aa} {LI left left' Le:List (aa × Bool)} (h:rR R LI left Le) {s:aa} {b:Bool} (hs:s∈af LI) (ba:∀p,p∈left↔p=(s,b)\/p∈left') (hns:s∉af left') (hl:longest R s=ByteArray.empty):rR R LI left' Le where
 val:=h.val
 key:=fun r=>by
  rw [h.key];constructor
  · rintro ⟨x,h1,h2,h3⟩;exact ⟨x,h1,fun e=>h2 ((gY ba x).2 (.inr e)),h3⟩
  rintro ⟨x,h1,h2,h3,h4⟩;refine ⟨x,h1,fun e=> ?_,h3,h4⟩;rcases (gY ba x).1 e with rfl|e
  · exact h4 (h3.symm.trans hl)
  exact h2 e
theorem rR.put {R:List aa} {LI left left' Le:List (aa × Bool)} (h:rR R LI left Le) {s r0:aa} {b:Bool} (hs:s∈af LI) (ba:∀p,p∈left↔p=(s,b)\/p∈left') (hns:s∉af left') (hl:longest R s=r0/\r0≠ByteArray.empty):rR R LI left' (bN Le r0 true) where
 val:=fun r b hr=>by
  rw [bk] at hr;split at hr
  · exact (Option.some.inj hr).symm
  exact h.val r b hr
 key:=fun r=>by
  rw [bH,h.key];constructor
  · rintro (rfl|⟨x,h1,h2,h3⟩)
    · exact ⟨s,hs,hns,hl⟩
    exact ⟨x,h1,fun e=>h2 ((gY ba x).2 (.inr e)),h3⟩
  rintro ⟨x,h1,h2,h3,h4⟩;by_cases e:x=s
  · subst e;exact .inl (h3.symm.trans hl.1)
  exact .inr ⟨x,h1,fun e2=>by rcases (gY ba x).1 e2 with e2|e2;exact e e2;exact h2 e2,h3,h4⟩
abbrev Jt (a b p d:Nat):Value:= .agg #[.map (some a), .map (some b), .pointer (some ⟨p,0,none⟩), .map (some d)]
abbrev Ss (a b p d:Nat):Value:= .iface 179 (Jt a b p d)
section
variable {ops:Array Oper} {rest:List Oper} {o:Oper} {c:Act} {Q:Exit->Act->World->Prop} {w:World} {a b p d:Nat}
theorem Gh (hgd:o.guard=none) (r:Operand) (hop:o.op= .call {callee:= .invoke r "DependencyConstraints",args:= #[],argTypes:= #[]}) (hr:c.eval r=Ss a b p d) (hK:∀w',Below w.heap.size w w'->wpList Tryz.prog ops Q rest (c.put o.dst (.map (some a))) w'):wpList Tryz.prog ops Q (o::rest) c w:=by
 refine aT hgd r "DependencyConstraints" #[] #[] hop 179 (Jt a b p d) 258 (Jt a b p d) _ hr (fun w=>by kernel_rfl) func258 rfl (by kernel_rfl) (by simp:(#[]:Array Operand).map c.eval= #[]) _ (f258 a b p d w) ?_;rintro e w' ⟨rfl,hB⟩;exact ⟨_,rfl,hK w' hB⟩
theorem Su (hgd:o.guard=none) (r:Operand) (hop:o.op= .call {callee:= .invoke r "Overrides",args:= #[],argTypes:= #[]}) (hr:c.eval r=Ss a b p d) (hK:∀w',Below w.heap.size w w'->wpList Tryz.prog ops Q rest (c.put o.dst (.map (some b))) w'):wpList Tryz.prog ops Q (o::rest) c w:=by
 refine aT hgd r "Overrides" #[] #[] hop 179 (Jt a b p d) 260 (Jt a b p d) _ hr (fun w=>by kernel_rfl) func260 rfl (by kernel_rfl) (by simp:(#[]:Array Operand).map c.eval= #[]) _ (f260 a b p d w) ?_;rintro e w' ⟨rfl,hB⟩;exact ⟨_,rfl,hK w' hB⟩
theorem Sv (hgd:o.guard=none) (r:Operand) (hop:o.op= .call {callee:= .invoke r "IgnoredPackages",args:= #[],argTypes:= #[]}) (hr:c.eval r=Ss a b p d) (hK:∀w',Below w.heap.size w w'->wpList Tryz.prog ops Q rest (c.put o.dst (.pointer (some ⟨p,0,none⟩))) w'):wpList Tryz.prog ops Q (o::rest) c w:=by
 refine aT hgd r "IgnoredPackages" #[] #[] hop 179 (Jt a b p d) 259 (Jt a b p d) _ hr (fun w=>by kernel_rfl) func259 rfl (by kernel_rfl) (by simp:(#[]:Array Operand).map c.eval= #[]) _ (f259 a b p d w) ?_;rintro e w' ⟨rfl,hB⟩;exact ⟨_,rfl,hK w' hB⟩
theorem Sw (hgd:o.guard=none) (r:Operand) (hop:o.op= .call {callee:= .invoke r "RequiredPackages",args:= #[],argTypes:= #[]}) (hr:c.eval r=Ss a b p d) (hK:∀w',Below w.heap.size w w'->wpList Tryz.prog ops Q rest (c.put o.dst (.map (some d))) w'):wpList Tryz.prog ops Q (o::rest) c w:=by
 refine aT hgd r "RequiredPackages" #[] #[] hop 179 (Jt a b p d) 261 (Jt a b p d) _ hr (fun w=>by kernel_rfl) func261 rfl (by kernel_rfl) (by simp:(#[]:Array Operand).map c.eval= #[]) _ (f261 a b p d w) ?_;rintro e w' ⟨rfl,hB⟩;exact ⟨_,rfl,hK w' hB⟩
theorem Sy {A B:Option Addr} {n m k e:Nat} (hgd:o.guard=none) (r:Operand) (hop:o.op= .call {callee:= .invoke r "InputImports",args:= #[],argTypes:= #[]}) (hr:c.eval r= .iface 227 (.agg #[.slice A n k, .slice B m e])) (hK:∀w',Below w.heap.size w w'->wpList Tryz.prog ops Q rest (c.put o.dst (.slice B m e)) w'):wpList Tryz.prog ops Q (o::rest) c w:=by
 refine aT hgd r "InputImports" #[] #[] hop 227 (.agg #[.slice A n k, .slice B m e]) 267 (.agg #[.slice A n k, .slice B m e]) _ hr (fun w=>by kernel_rfl) func267 rfl (by kernel_rfl) (by simp:(#[]:Array Operand).map c.eval= #[]) _ (f267 A B n m k e w) ?_;rintro e w' ⟨rfl,hB⟩;exact ⟨_,rfl,hK w' hB⟩
theorem Sz {A B:Option Addr} {n m k e:Nat} (hgd:o.guard=none) (r:Operand) (hop:o.op= .call {callee:= .invoke r "Projects",args:= #[],argTypes:= #[]}) (hr:c.eval r= .iface 227 (.agg #[.slice A n k, .slice B m e])) (hK:∀w',Below w.heap.size w w'->wpList Tryz.prog ops Q rest (c.put o.dst (.slice A n k)) w'):wpList Tryz.prog ops Q (o::rest) c w:=by
 refine aT hgd r "Projects" #[] #[] hop 227 (.agg #[.slice A n k, .slice B m e]) 268 (.agg #[.slice A n k, .slice B m e]) _ hr (fun w=>by kernel_rfl) func268 rfl (by kernel_rfl) (by simp:(#[]:Array Operand).map c.eval= #[]) _ (f268 A B n m k e w) ?_;rintro e w' ⟨rfl,hB⟩;exact ⟨_,rfl,hK w' hB⟩
end
def SA (R:List aa) (LI:List (aa × Bool)) (w:World) (e:Ending) (w':World):Prop:=∃eb Le,e= .returned (.map (some eb))/\ah aO w' eb Le/\rR R LI [] Le/\w.heap.size<=eb/\Below w.heap.size w w'
theorem SB {R:List aa} {LI Le:List (aa × Bool)} {w w':World} {e:Ending} {eb:Nat} (h:e= .returned (.map (some eb))) (h1:ah aO w' eb Le) (h2:rR R LI [] Le) (h3:w.heap.size<=eb) (h4:Below w.heap.size w w'):SA R LI w e w':=⟨eb,Le,h,h1,h2,h3,h4⟩
theorem f70 (a b p d ib:Nat) (La:List (aa × (aa × Value))) (LI:List (aa × Bool)) (w:World) (hA:ah tq w a La) (hI:ah aO w ib LI) (hl:La.length<=11) (hs:∀r∈af La,r≠ByteArray.empty/\r.size<=1000000) (hx:∀x∈af LI,x.size<=140737488351232):
 Calls Tryz.prog 70 #[.iface 179 (.agg #[.map (some a), .map (some b), .pointer (some ⟨p,0,none⟩), .map (some d)]), .map (some ib)] w (SA (af La) LI w):=by
 have hmk:=I7;have IX:=Y0 hA.lt;have UJ:=Y0 hI.lt;have HA:=Y0 hA;have HI:=Y0 hI;have HS:=Y0 hs;have HX:=Y0 hx;have HL:=Y0 hl;obtain ⟨w1,hw1⟩:∃W,W=w.alloc (.map #[] 0):=⟨_,rfl⟩;have hs1:Hid (w1.heap.size=w.heap.size+1):=Y0 (by rw [hw1,World.size_alloc]);have hb1:Hid (Below w.heap.size w w1):=Y0 (by rw [hw1];exact (Below.refl _ _).alloc (Nat.le_refl _) _);have jB:Hid (ah aO w1 w.heap.size []):=Y0 (by rw [hw1];exact ah.made w aO);have lj:=Y0 hw1;clear hA hI hs hx hl hw1;go_enter func70,ntmps70;have flag:True:=trivial
 go_wp2_with (first
  | (clear flag;(try rw [<-lj.out]);go_at_call 71;refine (QK w1).mono ?_;rintro e w2 ⟨tb,rfl,Ux,cZ⟩;have H2:=Y2 Ux cZ;clear Ux cZ;have aj:True:=trivial)
  | (clear aj;refine Gh (o:=⟨some 15,_,_,_,_,_⟩) (a:=a) (b:=b) (p:=p) (d:=d) rfl _ rfl rfl ?_;intro w3 bb;have H3:=Y0 bb;clear bb;have au:True:=trivial;go_frame)
  | (clear au;refine bp (o:=⟨some 16,_,_,_,_,_⟩) rfl _ _ rfl _ _ underlying100 rfl ((HA.out.pure hb1.out).pure ((H2.out.2.mono (Nat.le_refl _)).trans (H3.out.mono H2.out.2.size))) ?_;intro w4 uQ hB4 hs4;have H4:=Y3 uQ hB4 hs4;clear uQ hB4 hs4;go_frame))
 obtain ⟨it,hit⟩:∃it,it=w3.heap.size:=⟨_,rfl⟩;rw [<-hit];have O0:=H4.out;rw [<-hit] at O0;have hsz:Hid (w.heap.size+1<=it/\w4.heap.size=it+1):=Y0 ⟨by have:=H2.out.2.size;have:=H3.out.size;have:=hs1.out;omega,O0.2.2⟩
 have hT4:Hid (Trie w4 (w.heap.size+1) it tb 0 (fun _=>none) 0):=Y0 (by
  have h1:=(H2.out.1.pure H3.out).excl (bx':=it) (by omega);rw [hs1.out] at h1;exact h1.pure (by rw [<-hit];exact O0.2.1))
 have YE:Hid (Below (w.heap.size+1) w1 w4):=Y0 (by
  have h1:=H2.out.2.trans ((H3.out.mono H2.out.2.size).trans (O0.2.1.mono (by have:=hsz.out;have:=hs1.out;omega)));rw [hs1.out] at h1;exact h1)
 have hI4:=Y0 O0.1;clear O0 hit;go_loopw [7] (fun _ wr=>∃(left:List (aa × (aa × Value))) (m sz:Nat) (g:gF),Hid (aL tq wr a it La left/\Trie wr (w.heap.size+1) it tb m g sz/\m+left.length<=La.length/\sz<=m/\BR La left g/\Below (w.heap.size+1) w1 wr)) (fun _ wr=>gz wr it)
 case atStart=>exact ⟨La,0,0,fun _=>none,Y0 ⟨hI4.out,hT4.out,by omega,Nat.le_refl _,⟨fun _ _ _ h=>(by cases h),fun r hr=> .inl hr⟩,YE.out⟩⟩
 obtain ⟨left,m,sz,g,hc⟩:=hrel
 cases left with
 | cons pr eX=>
   have aU:True:=trivial
   go_wp2_with (first
    | (clear aU;refine ay (o:=⟨some 17,_,_,_,_,_⟩) rfl _ rfl rfl hc.out.1 (by intro h;cases h) ?_;intro s2 b2 left' w2' hmem hget eI ba hlen hns hg2 hs2 hent;have bO:=Y5 eI ba hlen hg2 (aF.1 (by rw [hget];rfl));have mO:=Y0 (hc.out.2.1.beside hg2);have hs5:=Y2 eI.lt hs2;clear hmem hget eI ba hlen hns hg2 hs2;have dh:True:=trivial;go_frame)
    | (clear dh;go_at_call 75;refine (QL (w.heap.size+1) it tb m sz g s2 _ mO.out (by have:=hs5.out.1;have:=hsz.out;omega) hs5.out.1 (by have:=hc.out.2.2.1;have:=HL.out;omega) (HS.out s2 bO.out.2.2.2.2).2 (by have:=hc.out.2.2.1;have:=hc.out.2.2.2.1;have:=HL.out;omega)).mono ?_;rintro e w5 ⟨⟨v5,rfl⟩,UK,eQ,hx6⟩;have H6:=Y3 UK eQ hx6;clear UK eQ hx6))
   have UL:=bO.out.1.keep (H6.out.2.1.block a (by have:=IX.out;omega)) H6.out.2.2
   refine ⟨⟨left',m+1,_,_,Y0 ⟨UL,H6.out.1,by have:=bO.out.2.2.1;have:=hc.out.2.2.1;omega,by have:=hc.out.2.2.2.1;split<;>omega,hc.out.2.2.2.2.1.put bO.out.2.2.2.2 bO.out.2.1 _,hc.out.2.2.2.2.2.trans ((Below.of_grown bO.out.2.2.2.1 (fun k hk=>by injection hk with hk;have:=hsz.out;omega) (by have:=hc.out.2.2.2.2.2.size;have:=hs1.out;omega)).trans H6.out.2.1)⟩⟩,by rw [aG UL,aG hc.out.1];have:=bO.out.2.2.1;omega⟩
 | nil=>
   have aU:True:=trivial;have gI:Hid (Below w.heap.size w wr):=Y0 (hb1.out.trans (hc.out.2.2.2.2.2.mono (Nat.le_succ _)))
   go_wp2_with (first
    | (clear aU;refine ay (o:=⟨some 17,_,_,_,_,_⟩) rfl _ rfl rfl hc.out.1 ?_ (by intro y2 b2 left' w2 hmem;cases hmem);intro _;have dh:True:=trivial;go_frame)
    | (clear dh;refine bp (o:=⟨some 25,_,_,_,_,_⟩) rfl _ _ rfl _ _ underlying91 rfl (HI.out.pure gI.out) ?_;intro w6 uQ eQ iO;have H6:=Y3 uQ eQ iO;clear uQ eQ iO;go_frame))
   obtain ⟨jY,lN⟩:∃i,i=wr.heap.size:=⟨_,rfl⟩;rw [<-lN];have h6:=H6.out;rw [<-lN] at h6;have UK:Hid (Trie w6 (w.heap.size+1) jY tb m g sz):=Y0 ((hc.out.2.1.excl (bx':=jY) (by omega)).pure (by rw [<-lN];exact h6.2.1));have KW:Hid (w.heap.size+1<=jY/\w6.heap.size=jY+1):=Y0 ⟨by have:=hc.out.2.2.2.2.2.size;have:=hs1.out;omega,h6.2.2⟩;have xB:Hid (ah aO w6 w.heap.size []):=Y0 ((jB.out.below (hc.out.2.2.2.2.2) (Nat.lt_succ_self _)).below h6.2.1 (by have:=KW.out;omega));have UL:=Y0 h6.1;have eQ:Hid (Below w.heap.size w w6):=Y0 (gI.out.trans (h6.2.1.mono (by have:=KW.out;omega)));clear h6 lN;have hg:Hid ((∀p k v,g p=some (k,v)->cY k=p/\k∈af La)/\∀r∈af La,(g (cY r)).isSome=true):=Y0 ⟨hc.out.2.2.2.2.1.src,fun r hr=>(hc.out.2.2.2.2.1.cov r hr).elim (fun h=>(by cases h)) id⟩;go_loopw [8] (fun _ wq=>∃(left Le:List (aa × Bool)),Hid (aL aO wq ib jY LI left/\Trie wq (w.heap.size+1) jY tb m g sz/\ah aO wq w.heap.size Le/\rR (af La) LI left Le/\Below w.heap.size w wq)) (fun _ wq=>gz wq jY)
   case atStart=>exact ⟨LI, [],Y0 ⟨UL.out,UK.out,xB.out,⟨fun _ _ h=>(by cases h),fun r=>⟨fun h=>(by cases h),fun ⟨x,h1,h2,_⟩=>absurd h1 h2⟩⟩,eQ.out⟩⟩
   obtain ⟨left,Le,hd⟩:=hrel
   cases left with
   | cons pr eX=>
     have aU:True:=trivial
     go_wp2_with (first
      | (clear aU;refine ay (o:=⟨some 26,_,_,_,_,_⟩) rfl _ rfl rfl hd.out.1 (by intro h;cases h) ?_;intro s2 b2 left' w2' hmem hget eI ba hlen hns hg2 hs2 hent;have bO:=Y6 eI ba hlen hg2 (aF.1 (by rw [hget];rfl)) hns;have mO:=Y0 (hd.out.2.1.beside hg2);have vN:=Y0 (hd.out.2.2.1.grown hg2 (by intro e;injection e with e;have:=KW.out;omega));have hs5:=Y0 hs2;have bz:=Y0 (Below.of_grown (B:=w.heap.size) hg2 (fun k hk=>by injection hk with hk;have:=KW.out;omega) hd.out.2.2.2.2.size);clear hmem hget eI ba hlen hns hg2 hs2;have dh:True:=trivial;go_frame)
      | (clear dh;go_at_call 73;refine (WK (w.heap.size+1) jY tb m sz g s2 _ mO.out (by have:=hc.out.2.2.1;have:=HL.out;omega) (HX.out s2 bO.out.2.2.2.2.1)).mono ?_;rintro e w8 ⟨o,rfl,Uy,hkp,qh⟩;have Bw:=Y0 (AA hg.out.1 hg.out.2 (fun r hr=>(HS.out r hr).1) Uy);have H8:=Y0 qh;have hE8:=Y0 (vN.out.pure qh);clear Uy hkp qh;rcases o with _|⟨kk,vv⟩<;>simp only [jT]<;>have jh:True:=trivial)
      | (clear jh;refine aM (f:=aO) (b:=true) rfl _ _ _ 91 rfl _ _ underlying91 underlying9 rfl hE8.out rfl rfl ?_;intro w9 BP jl T6;have H9:=Y2 BP jl;clear BP jl T6;go_frame))
     · have hl0:longest (af La) s2=ByteArray.empty:=by
        by_cases e:longest (af La) s2=ByteArray.empty
        · exact e
        obtain ⟨v,hv⟩:=(Bw.out _).2 ⟨rfl,e⟩;cases hv
       have SC:=bO.out.1.pure H8.out;exact ⟨⟨left',Le,Y0 ⟨SC,mO.out.pure H8.out,hE8.out,hd.out.2.2.2.1.none bO.out.2.2.2.2.1 bO.out.2.1 bO.out.2.2.2.2.2 hl0,hd.out.2.2.2.2.trans (bz.out.trans (H8.out.mono (by have:=hd.out.2.2.2.2.size;have:=hs5.out;omega)))⟩⟩,by rw [aG SC,aG hd.out.1];have:=bO.out.2.2.1;omega⟩
     have hl0:=(Bw.out kk).1 ⟨vv,rfl⟩;have SC:=(bO.out.1.pure H8.out).grown H9.out.2 (by intro e;injection e with e;have:=UJ.out;omega) (by intro e;injection e with e;have:=KW.out;omega)
     refine ⟨⟨left',_,Y0 ⟨SC,(mO.out.pure H8.out).grown H9.out.2 (fun k hk=>by injection hk with hk;omega),H9.out.1,hd.out.2.2.2.1.put bO.out.2.2.2.2.1 bO.out.2.1 bO.out.2.2.2.2.2 hl0,hd.out.2.2.2.2.trans (bz.out.trans ((H8.out.mono (by have:=hd.out.2.2.2.2.size;have:=hs5.out;omega)).trans (Below.of_grown H9.out.2 (fun k hk=>by injection hk with hk;omega) (by have:=hd.out.2.2.2.2.size;have:=hs5.out;have:=H8.out.size;omega))))⟩⟩,by rw [aG SC,aG hd.out.1];have:=bO.out.2.2.1;omega⟩
   | nil=>
     have aU:True:=trivial;go_wp2_with (clear aU;refine ay (o:=⟨some 26,_,_,_,_,_⟩) rfl _ rfl rfl hd.out.1 ?_ (by intro y2 b2 left' w2 hmem;cases hmem);intro _;go_frame);go_ret;exact SB rfl hd.out.2.2.1 hd.out.2.2.2.1 (Nat.le_refl _) hd.out.2.2.2.2
end Go.Proofs.YtjenhelmpcajfaaGreatDoor
