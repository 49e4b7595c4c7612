/- the search among packages: its plain law -/
import Derived.Test.YtjenhelmpcajfaaGreatDoorA28
import Derived.Test.YtjenhelmpcajfaaGreatDoorA27
set_option linter.all false
namespace Go.Proofs.YtjenhelmpcajfaaGreatDoor
open Go.RowKit
section
variable {root:aa} {ig:List aa} {pks:List Pk}
theorem vH.trans {a b c:aa} (h:vH root ig pks a b) (k:vH root ig pks b c):vH root ig pks a c:=by
 induction k with
 | base=>exact h
 | step _ hq hz ih=>exact .step ih hq hz
theorem eY.rch {a b:aa} (h:eY root ig pks a b):vH root ig pks a b:=by
 obtain ⟨y,q,h1,h2,h3⟩:=h;exact .step h1 h2 h3
theorem eY.trans {a b c:aa} (h:eY root ig pks a b) (k:eY root ig pks b c):eY root ig pks a c:=by
 obtain ⟨y,q,h1,h2,h3⟩:=k;exact ⟨y,q,h.rch.trans h1,h2,h3⟩
theorem eY.one {a b:aa} {q:Pk} (h:fL ig pks a q) (hb:b∈dQ root ig q):eY root ig pks a b:=⟨a,q, .base,h,hb⟩
theorem vH.first {p y:aa} {q:Pk} (hq:fL ig pks p q) (h:vH root ig pks p y):y=p\/∃d∈dQ root ig q,d≠p/\vH root ig pks d y:=by
 induction h with
 | base=>exact .inl rfl
 | step h1 h2 h3 ih=>
   rename_i y z q';rcases ih with rfl|⟨d,hd,hne,hr⟩
   · have:=fL.inj hq h2;subst this;by_cases hz:z=y
     · exact .inl hz
     exact .inr ⟨z,h3,hz, .base⟩
   exact .inr ⟨d,hd,hne, .step hr h2 h3⟩
theorem Fw {p x:aa} {q:Pk} (hq:fL ig pks p q):iR root ig pks p x↔x∈dD root ig q\/∃d∈dQ root ig q,d≠p/\iR root ig pks d x:=by
 constructor
 · rintro ⟨y,q',h1,h2,h3⟩;rcases h1.first hq with rfl|⟨d,hd,hne,hr⟩
   · have:=fL.inj hq h2;subst this;exact .inl h3
   exact .inr ⟨d,hd,hne,y,q',hr,h2,h3⟩
 rintro (h|⟨d,hd,hne,y,q',h1,h2,h3⟩)
 · exact ⟨p,q, .base,hq,h⟩
 exact ⟨y,q',(eY.one hq hd).rch.trans h1,h2,h3⟩
theorem vH.bad {p y:aa} (hp:∀q,¬fL ig pks p q) (h:vH root ig pks p y):y=p:=by
 induction h with
 | base=>rfl
 | step h1 h2 h3 ih=>subst ih;exact absurd h2 (hp _)
theorem yc {p x:aa} (hp:∀q,¬fL ig pks p q):¬iR root ig pks p x:=by
 rintro ⟨y,q,h1,h2,h3⟩;rw [h1.bad hp] at h2;exact hp _ h2
def bg (root:aa) (ig:List aa) (pks:List Pk):Prop:=∀a b,a≠b->eY root ig pks a b->¬eY root ig pks b a
structure sG (root:aa) (ig:List aa) (pks:List Pk) (path:List aa) (jv:aa->Nat) (X:aa->Option (List aa)):Prop where
 grey:∀s,jv s=1↔s∈path
 good:∀s∈path,∃q,fL ig pks s q
 chain:path.Pairwise (eY root ig pks)
 black:∀s q,jv s=2->fL ig pks s q->∃S,X s=some S/\(bg root ig pks->∀x,x∈S↔iR root ig pks s x)
 bad:∀s,jv s=2->(∀q,¬fL ig pks s q)->X s=none
 white:∀s,jv s=0->X s=none
 open_:∀s∈path,∃S,X s=some S
def uK (root:aa) (ig:List aa) (pks:List Pk) (path:List aa) (p x:aa):Prop:=p∉path/\iR root ig pks p x
structure iE (root:aa) (ig:List aa) (pks:List Pk) (path:List aa) (p:aa) (jv:aa->Nat) (X:aa->Option (List aa)) (sH:aa->Nat) (X':aa->Option (List aa)):Prop where
 dfs:sG root ig pks path sH X'
 done:p∉path->sH p=2
 more:∀s∈path,∀S,X s=some S->∃S',X' s=some S'/\(bg root ig pks->∀x,x∈S'↔x∈S\/uK root ig pks path p x)
 old:∀s,jv s=2->sH s=2
 sub:∀s,sH s=0->jv s=0
theorem iF {X X':aa->Option (List aa)} (hd:∀s,(X' s).isSome=(X s).isSome) {s:aa} {S:List aa} (h:X s=some S):∃S',X' s=some S':=
 Option.isSome_iff_exists.1 (by rw [hd,h];rfl)
theorem ye {X X':aa->Option (List aa)} (hd:∀s,(X' s).isSome=(X s).isSome) {s:aa} (h:X s=none):X' s=none:=by
 have:=hd s;rw [h] at this
 cases hx:X' s with
 | none=>rfl
 | some S=>rw [hx] at this;cases this
theorem sG.to {path:List aa} {jv:aa->Nat} {X X':aa->Option (List aa)} (h:sG root ig pks path jv X) (hd:∀s,(X' s).isSome=(X s).isSome) (ho:bg root ig pks->∀s,s∉path->X' s=X s):sG root ig pks path jv X':=by
 refine ⟨h.grey,h.good,h.chain,fun s q hs hq=> ?_,fun s hs hq=>ye hd (h.bad s hs hq),fun s hs=>ye hd (h.white s hs),fun s hs=> ?_⟩
 · obtain ⟨S,h1,h2⟩:=h.black s q hs hq;obtain ⟨S',h3⟩:=iF hd h1;refine ⟨S',h3,fun hN=> ?_⟩;rw [ho hN s (fun hp=>by rw [(h.grey s).2 hp] at hs;cases hs),h1] at h3;rw [<-Option.some.inj h3];exact h2 hN
 obtain ⟨S,h1⟩:=h.open_ s hs;exact iF hd h1
theorem iE.grey {path:List aa} {p:aa} {jv:aa->Nat} {X X':aa->Option (List aa)} (h:sG root ig pks path jv X) (hp:p∈path) (hd:∀s,(X' s).isSome=(X s).isSome) (hX:bg root ig pks->X'=X):iE root ig pks path p jv X jv X':=
 ⟨h.to hd (fun hN s _=>by rw [hX hN]),fun h=>absurd hp h,fun s _ S hS=>by
  obtain ⟨S',h3⟩:=iF hd hS;refine ⟨S',h3,fun hN x=> ?_⟩;rw [hX hN,hS] at h3;rw [<-Option.some.inj h3];exact ⟨.inl,fun h=>by rcases h with h|h;exact h;exact absurd hp h.1⟩,fun _ h=>h,fun _ h=>h⟩
theorem CR {path:List aa} {p last:aa} (hn:bg root ig pks) (hc:path.Pairwise (eY root ig pks)) {front:List aa} (tJ:path=front++ [last]) (hp:p∈path) (he:eY root ig pks last p):p=last:=by
 subst tJ;rcases List.mem_append.1 hp with h|h
 · have:=(List.pairwise_append.1 hc).2.2 p h last (by simp);by_cases hpl:p=last
   · exact hpl
   exact absurd he (hn p last hpl this)
 simpa using h
def upd {β:Type} (f:aa->β) (s:aa) (v:β):aa->β:=fun t=>if t=s then v else f t
theorem upd_same {β:Type} (f:aa->β) (s:aa) (v:β):upd f s v s=v:=by simp [upd]
theorem upd_ne {β:Type} (f:aa->β) (s t:aa) (v:β) (h:t≠s):upd f s v t=f t:=by simp [upd,h]
theorem iE.bad {path:List aa} {p:aa} {jv:aa->Nat} {X:aa->Option (List aa)} (h:sG root ig pks path jv X) (hc:jv p=0) (hb:∀q,¬fL ig pks p q):iE root ig pks path p jv X (upd jv p 2) X:=by
 have hp:p∉path:=fun hp=>by rw [(h.grey p).2 hp] at hc;cases hc
 refine ⟨⟨fun s=> ?_,h.good,h.chain,fun s q hs hq=> ?_,fun s hs hq=> ?_,fun s hs=> ?_,h.open_⟩,fun _=>upd_same _ _ _,fun _ _ S hS=>⟨S,hS,fun _ x=>⟨.inl,fun h=>by rcases h with h|h;exact h;exact absurd h.2 (yc hb)⟩⟩,fun s hs=> ?_,fun s hs=> ?_⟩
 · by_cases hsp:s=p
   · subst hsp;rw [upd_same];exact ⟨fun h=>(by cases h),fun h=>absurd h hp⟩
   rw [upd_ne _ _ _ _ hsp];exact h.grey s
 · by_cases hsp:s=p
   · subst hsp;exact absurd hq (hb q)
   rw [upd_ne _ _ _ _ hsp] at hs;exact h.black s q hs hq
 · by_cases hsp:s=p
   · subst hsp;exact h.white s hc
   rw [upd_ne _ _ _ _ hsp] at hs;exact h.bad s hs hq
 · by_cases hsp:s=p
   · subst hsp;rw [upd_same] at hs;cases hs
   rw [upd_ne _ _ _ _ hsp] at hs;exact h.white s hs
 · by_cases hsp:s=p
   · subst hsp;exact upd_same _ _ _
   rw [upd_ne _ _ _ _ hsp];exact hs
 by_cases hsp:s=p
 · subst hsp;exact hc
 rw [upd_ne _ _ _ _ hsp] at hs;exact hs
theorem iE.black {path:List aa} {p:aa} {jv:aa->Nat} {X X':aa->Option (List aa)} (h:sG root ig pks path jv X) (hc:jv p=2) (hd:∀s,(X' s).isSome=(X s).isSome) (ho:bg root ig pks->∀s,s∉path->X' s=X s)
 (hm:bg root ig pks->∀s∈path,∀S,X s=some S->∃S',X' s=some S'/\∀x,x∈S'↔x∈S\/iR root ig pks p x):iE root ig pks path p jv X jv X':=by
 have hp:p∉path:=fun hp=>by rw [(h.grey p).2 hp] at hc;cases hc
 refine ⟨h.to hd ho,fun _=>hc,fun s hs S hS=> ?_,fun _ h=>h,fun _ h=>h⟩;obtain ⟨S',h3⟩:=iF hd hS;refine ⟨S',h3,fun hN x=> ?_⟩;obtain ⟨S2,h1,h2⟩:=hm hN s hs S hS;rw [h3] at h1;rw [Option.some.inj h1,h2];exact ⟨fun h=>by rcases h with h|h;exact .inl h;exact .inr ⟨hp,h⟩,fun h=>by rcases h with h|h;exact .inl h;exact .inr h.2⟩
theorem sG.push {path:List aa} {p:aa} {q:Pk} {jv:aa->Nat} {X X':aa->Option (List aa)} (h:sG root ig pks path jv X) (hc:jv p=0) (hq:fL ig pks p q) (hr:∀a∈path,eY root ig pks a p) (hd:∀s,s≠p->(X' s).isSome=(X s).isSome) (ho:bg root ig pks->∀s,s∉path->s≠p->X' s=X s)
 (hm:∀s∈path++ [p],∃S,X' s=some S):sG root ig pks (path++ [p]) (upd jv p 1) X':=by
 have Ox:∀s,jv s≠1->s∉path:=fun s hs hsp=>hs ((h.grey s).2 hsp)
 have hno:∀s,s≠p->X s=none->X' s=none:=fun s hsp hX=>by
  have:=hd s hsp;rw [hX] at this
  cases hx:X' s with
  | none=>rfl
  | some S=>rw [hx] at this;cases this
 refine ⟨fun s=> ?_,fun s hs=> ?_, ?_,fun s q' hs hq'=> ?_,fun s hs hq'=> ?_,fun s hs=> ?_,hm⟩
 · by_cases hsp:s=p
   · subst hsp;rw [upd_same];simp
   rw [upd_ne _ _ _ _ hsp,h.grey s];simp [hsp]
 · rcases List.mem_append.1 hs with hs|hs
   · exact h.good s hs
   obtain rfl:s=p:=by simpa using hs
   exact ⟨q,hq⟩
 · exact List.pairwise_append.2 ⟨h.chain,List.pairwise_singleton _ _,fun a ha b hb=>by
   have e:b=p:=by simpa using hb
   rw [e];exact hr a ha⟩
 · by_cases hsp:s=p
   · subst hsp;rw [upd_same] at hs;cases hs
   rw [upd_ne _ _ _ _ hsp] at hs;obtain ⟨S,h1,h2⟩:=h.black s q' hs hq';obtain ⟨S',h3⟩:∃S',X' s=some S':=Option.isSome_iff_exists.1 (by rw [hd s hsp,h1];rfl);refine ⟨S',h3,fun hN=> ?_⟩;rw [ho hN s (Ox s (by omega)) hsp,h1] at h3;rw [<-Option.some.inj h3];exact h2 hN
 · by_cases hsp:s=p
   · subst hsp;rw [upd_same] at hs;cases hs
   rw [upd_ne _ _ _ _ hsp] at hs;exact hno s hsp (h.bad s hs hq')
 by_cases hsp:s=p
 · subst hsp;rw [upd_same] at hs;cases hs
 rw [upd_ne _ _ _ _ hsp] at hs;exact hno s hsp (h.white s hs)
def Fx (root:aa) (ig:List aa) (pks:List Pk) (path:List aa) (p:aa) (q:Pk) (ds:List aa) (x:aa):Prop:=x∈dD root ig q\/∃d∈ds,uK root ig pks (path++ [p]) d x
theorem BI {path:List aa} {p x:aa} {q:Pk} {ds:List aa} (hn:bg root ig pks) (hq:fL ig pks p q) (hp:p∉path) (hr:∀a∈path,eY root ig pks a p) (hd:∀d,d∈ds↔d∈dQ root ig q):Fx root ig pks path p q ds x↔iR root ig pks p x:=by
 rw [Fw hq];unfold Fx uK;constructor
 · rintro (h|⟨d,h1,h2,h3⟩)
   · exact .inl h
   exact .inr ⟨d,(hd d).1 h1,fun e=>h2 (by simp [e]),h3⟩
 rintro (h|⟨d,h1,h2,h3⟩)
 · exact .inl h
 refine .inr ⟨d,(hd d).2 h1,fun hm=> ?_,h3⟩;rcases List.mem_append.1 hm with hm|hm
 · exact hn d p (fun e=>hp (e▸hm)) (hr d hm) (eY.one hq h1)
 exact h2 (by simpa using hm)
theorem iE.close {path:List aa} {p:aa} {q:Pk} {ds:List aa} {Fy jv:aa->Nat} {X0 X:aa->Option (List aa)} (h0:sG root ig pks path Fy X0) (hc0:Fy p=0) (hq:fL ig pks p q) (hr:∀a∈path,eY root ig pks a p) (hd:∀d,d∈ds↔d∈dQ root ig q)
 (h:sG root ig pks (path++ [p]) jv X) (hold:∀s,Fy s=2->jv s=2) (hsub:∀s,jv s=0->Fy s=0) (hX:∀s∈path,∀S,X0 s=some S->∃S',X s=some S'/\(bg root ig pks->∀x,x∈S'↔x∈S\/Fx root ig pks path p q ds x))
 (Uz:∃S,X p=some S/\(bg root ig pks->∀x,x∈S↔Fx root ig pks path p q ds x)):iE root ig pks path p Fy X0 (upd jv p 2) X:=by
 have hp:p∉path:=fun hp=>by rw [(h0.grey p).2 hp] at hc0;cases hc0
 refine ⟨⟨fun s=> ?_,h0.good,h0.chain,fun s q' hs hq'=> ?_,fun s hs hq'=> ?_,fun s hs=> ?_,fun s hs=>h.open_ s (List.mem_append_left _ hs)⟩,fun _=>upd_same _ _ _,fun s hs S hS=> ?_,fun s hs=> ?_,fun s hs=> ?_⟩
 · by_cases hsp:s=p
   · subst hsp;rw [upd_same];exact ⟨fun h=>(by cases h),fun h=>absurd h hp⟩
   rw [upd_ne _ _ _ _ hsp,h.grey s];simp [hsp]
 · by_cases hsp:s=p
   · subst hsp;obtain ⟨S,h1,h2⟩:=Uz;exact ⟨S,h1,fun hn x=>by rw [h2 hn,BI hn hq hp hr hd]⟩
   rw [upd_ne _ _ _ _ hsp] at hs;exact h.black s q' hs hq'
 · by_cases hsp:s=p
   · subst hsp;exact absurd hq (hq' q)
   rw [upd_ne _ _ _ _ hsp] at hs;exact h.bad s hs hq'
 · by_cases hsp:s=p
   · subst hsp;rw [upd_same] at hs;cases hs
   rw [upd_ne _ _ _ _ hsp] at hs;exact h.white s hs
 · obtain ⟨S',h1,h2⟩:=hX s hs S hS;exact ⟨S',h1,fun hn x=>by rw [h2 hn,BI hn hq hp hr hd];exact ⟨fun h=>by rcases h with h|h;exact .inl h;exact .inr ⟨hp,h⟩,fun h=>by rcases h with h|h;exact .inl h;exact .inr h.2⟩⟩
 · by_cases hsp:s=p
   · subst hsp;exact upd_same _ _ _
   rw [upd_ne _ _ _ _ hsp];exact hold s hs
 by_cases hsp:s=p
 · subst hsp;exact hc0
 rw [upd_ne _ _ _ _ hsp] at hs;exact hsub s hs
end
section
variable {P:Program}
theorem pW {F:Nat->Prop} {w:World} {lo:Nat} (ty:TypeId) (ht:P.underlying 22=some (.slice 9)) (i:TypeInfo) (hi:P.info? 9=some i) (hz:i.zero=some (.string ⟨#[]⟩)) (hsz:i.size=1) (hby:i.bytes=16)
 {v:Value} {path:List aa} (hO:Own aD lo 9 F w v path) (ad:Addr) (c:Nat) (x:aa) (hx:w.cell? ad=some (.string x)) (hl:path.length<=1000000) (hlo:lo<=w.heap.size) (had:ad.add 0=ad):
 ∃g cap w',(Builtin.append_ #[22,22] ty #[v, .slice (some ad) 1 c]).run P w= .ok (.slice (some ⟨g,0,none⟩) (path.length+1) cap) w'/\Own aD lo 9 (fun b=>b=g) w' (.slice (some ⟨g,0,none⟩) (path.length+1) cap) (path++ [x])/\w.grownBy w' v.ownBlock/\g<w'.heap.size/\
  ((∃cur cur',v= .slice (some ⟨g,0,none⟩) path.length cap/\w.heap[g]?=some (.cells cur 9 (0,0))/\w'.heap[g]?=some (.cells cur' 9 (0,0))/\cur'.size=cur.size/\cur'.toList.take path.length=cur.toList.take path.length)\/(g=w.heap.size/\w.grownBy w' none)):=by
 have hown:=aW hO
 have hnews:∀j u,([Value.string x]:List Value)[j]?=some u->w.cell? (ad.add j)=some u:=by
  intro j u hu
  cases j with
  | zero=>simp at hu;rw [had,hx,hu]
  | succ j=>simp at hu
 have h1:∀u∈([Value.string x]:List Value),u.oneCell'=true:=by intro u hu;simp at hu;rw [hu];rfl
 obtain ⟨g,cap,w',hr,h2,h3,h4,h5⟩:=run_append_lies (P:=P) w 22 ty lo 9 i _ 1 16 ht hi hz hsz hby rfl (by omega) v path.length _ hown ad 1 c [.string x] rfl hnews h1 (by omega) (by simp [maxLen];omega) (by omega) hlo _ rfl;refine ⟨g,cap,w',hr, ?_,h3,h5, ?_⟩
 · have:(path++ [x]).length=path.length+1:=by simp
   exact cV (by rw [this,List.map_append];exact h2) (fun k hk=>by simp [Value.ownBlock] at hk;exact hk.symm)
 rcases hown.2 with ⟨rfl,_⟩|⟨g0,MQ,cur,rfl,hb,hg,hnc,hcm,hcs,htake⟩
 · rcases h4 with h4|h4
   · simp [Value.ownBlock] at h4
   exact .inr ⟨h4,h3⟩
 by_cases hroom:path.length+1<=MQ
 · have hr2:=run_append_room (P:=P) w 22 ty 9 i ht hi g0 path.length MQ cur hg ad 1 c [.string x] (by rw [hsz];rfl) hnews h1 hroom (by rw [hsz,hcs];simp;omega);rw [hr] at hr2;simp only [Result.ok.injEq,Value.slice.injEq,Option.some.injEq,Addr.mk.injEq,and_true,true_and] at hr2;obtain ⟨⟨rfl,rfl⟩,rfl⟩:=hr2;refine .inl ⟨cur,_,rfl,hg,setRow_heap w g cur _ 9 _ hg, ?_, ?_⟩
   · rw [hsz];simp only [List.size_toArray,List.length_append,List.length_take,List.length_drop,Array.length_toList,List.length_cons,List.length_nil];omega
   rw [hsz];simp only [Nat.mul_one,List.append_assoc];rw [List.take_append_of_le_length (by simp;omega),List.take_take,Nat.min_self]
 have holds:∀j u,(path.map Value.string)[j]?=some u->w.cell? ((⟨g0,0,none⟩:Addr).add j)=some u:=hown.cells (g:=g0) rfl;have hr2:=run_append_grow (P:=P) w 22 ty 9 i _ ht hi hz ⟨g0,0,none⟩ path.length MQ (path.map .string) (by rw [hsz];simp) holds ad 1 c [.string x] (by rw [hsz];rfl) hnews (by omega) (by omega) (growslice_fits (by omega) (by rw [hby];omega));rw [hr] at hr2;simp only [Result.ok.injEq,Value.slice.injEq,Option.some.injEq,Addr.mk.injEq,and_true,true_and] at hr2;refine .inr ⟨hr2.1.1, ?_⟩;rw [hr2.2];exact ⟨rfl,rfl,rfl,by simp,fun b hb _=>Below.heap_alloc w.drew _ b hb⟩
end
section
variable {P:Program}
theorem gL {ops:Array Oper} {rest:List Oper} {o:Oper} {a:Act} {Q:Exit->Act->World->Prop} {F:Nat->Prop} {w:World} {lo:Nat} (hgd:o.guard=none) (s x:Operand)
 (ho:o.op= .call {callee:= .builtin .append,args:= #[s,x],argTypes:= #[22,22]}) (ht:P.underlying 22=some (.slice 9)) (i:TypeInfo) (hi:P.info? 9=some i) (hz:i.zero=some (.string ⟨#[]⟩)) (hsz:i.size=1) (hby:i.bytes=16)
 {v:Value} {path:List aa} (hs:a.eval s=v) (hO:Own aD lo 9 F w v path) (ad:Addr) (c:Nat) (y:aa) (hx:a.eval x= .slice (some ad) 1 c) (hy:w.cell? ad=some (.string y)) (hl:path.length<=1000000) (hlo:lo<=w.heap.size) (had:ad.add 0=ad) (n:Nat) (hn:path.length=n)
 (h:∀g cap w',Own aD lo 9 (fun b=>b=g) w' (.slice (some ⟨g,0,none⟩) (n+1) cap) (path++ [y])->w.grownBy w' v.ownBlock->g<w'.heap.size->
  ((∃cur cur',v= .slice (some ⟨g,0,none⟩) n cap/\w.heap[g]?=some (.cells cur 9 (0,0))/\w'.heap[g]?=some (.cells cur' 9 (0,0))/\cur'.size=cur.size/\cur'.toList.take n=cur.toList.take n)\/(g=w.heap.size/\w.grownBy w' none))->wpList P ops Q rest (a.put o.dst (.slice (some ⟨g,0,none⟩) (n+1) cap)) w'):
 wpList P ops Q (o::rest) a w:=by
 subst hn;refine wpList_plain hgd fun K hK=> ?_
 obtain ⟨g,cap,w',hr,h2,h3,h4,h5⟩:=pW (P:=P) o.type ht i hi hz hsz hby hO ad c y hy hl hlo had;unfold Oper.wp execOp;simp only [ho,resolve,invoke,builtin,Sem.run_bind,Sem.run_pure,Result.andThen_ok,List.map_toArray,List.map_cons,List.map_nil,hs,hx,hr];exact hK _ _ (h g cap w' h2 h3 h4 h5)
end
structure Sp where
 (c2 c3 c4 c5 c6 c7 c8 c9 c10 cm wb em xm im lo:Nat)
 nr:Prop
def Sp.maps (s:Sp):List Nat:= [s.cm,s.em,s.xm,s.im]
def Sp.stat (s:Sp) (b:Nat):Prop:=b<s.lo/\b∉s.maps
inductive nD where
 | bad (T:TypeId) (x:Value)
 | good (me mi:Nat)
def nD.val:nD->Value
 | bad T x=> .agg #[.iface T x, .map none, .map none]
 | good me mi=> .agg #[.nilIface, .map (some me), .map (some mi)]
def Xx (s:Sp) (root:aa) (ig:List aa) (pks:List Pk) (w:World) (WM:List (aa × nD)):Prop:=
 (∀p me mi,ai WM p=some (.good me mi)->∃q le li,fL ig pks p q/\s.stat me/\s.stat mi/\ah aO w me le/\ah aO w mi li/\(∀x,x∈af le↔x∈dD root ig q)/\∀x,x∈af li↔x∈dQ root ig q)/\
  ∀p q,fL ig pks p q->∃me mi,ai WM p=some (.good me mi)
structure nE (s:Sp) (root:aa) (ig:List aa) (pks:List Pk) (fv:Value) (w:World):Prop where
 c2:w.heap[s.c2]?=some (.cells #[.map (some s.cm)] 288 (0,0))
 c3:w.heap[s.c3]?=some (.cells #[.map (some s.wb)] 228 (0,0))
 c4:w.heap[s.c4]?=some (.cells #[.bool false] 4 (0,0))
 c6:w.heap[s.c6]?=some (.cells #[.map (some s.em)] 160 (0,0))
 c7:w.heap[s.c7]?=some (.cells #[.map (some s.xm)] 289 (0,0))
 c8:w.heap[s.c8]?=some (.cells #[.map (some s.im)] 289 (0,0))
 c9:w.heap[s.c9]?=some (.cells #[fv] 298 (0,0))
 st:∀b∈ [s.c2,s.c3,s.c4,s.c6,s.c7,s.c8,s.c9,s.wb],s.stat b
 ml:∀b∈s.maps,b<s.lo
 mn:s.maps.Nodup
 lo:s.lo<=w.heap.size
 nr:s.nr=bg root ig pks
 wm:∃WM,ah nD.val w s.wb WM/\Xx s root ig pks w WM
section
variable {s:Sp} {root:aa} {ig:List aa} {pks:List Pk} {fv:Value} {w w':World}
theorem nE.keep (h:nE s root ig pks fv w) (hk:∀b,s.stat b->w'.heap[b]?=w.heap[b]?) (hs:w.heap.size<=w'.heap.size):nE s root ig pks fv w':=by
 have hst:∀b∈ [s.c2,s.c3,s.c4,s.c6,s.c7,s.c8,s.c9,s.wb],w'.heap[b]?=w.heap[b]?:=fun b hb=>hk b (h.st b hb)
 refine ⟨(hst _ (by simp)).trans h.c2,(hst _ (by simp)).trans h.c3,(hst _ (by simp)).trans h.c4,(hst _ (by simp)).trans h.c6,(hst _ (by simp)).trans h.c7,(hst _ (by simp)).trans h.c8,(hst _ (by simp)).trans h.c9,h.st,h.ml,h.mn,Nat.le_trans h.lo hs,h.nr, ?_⟩;obtain ⟨WM,h1,h2,h3⟩:=h.wm;refine ⟨WM,h1.keep (hst _ (by simp)),fun p me mi hg=> ?_,h3⟩;obtain ⟨q,le,li,k1,k2,k3,k4,k5,k6⟩:=h2 p me mi hg;exact ⟨q,le,li,k1,k2,k3,k4.keep (hk _ k2),k5.keep (hk _ k3),k6⟩
structure Fr (s:Sp) (n:Nat) (v:Value) (w w':World):Prop where
 env:Env w w'
 size:w.heap.size<=w'.heap.size
 stat:∀b,s.stat b->w'.heap[b]?=w.heap[b]?
 cells:∀b o,s.lo<=b->w.heap[b]?=some o->(∀es c,o≠ .map es c)->v.ownBlock≠some b->w'.heap[b]?=some o
 own:∀g cur,v.ownBlock=some g->w.heap[g]?=some (.cells cur 9 (0,0))->∃cur',w'.heap[g]?=some (.cells cur' 9 (0,0))/\cur'.size=cur.size/\cur'.toList.take n=cur.toList.take n
theorem Fr.refl (s:Sp) (n:Nat) (v:Value) (w:World):Fr s n v w w:=⟨Env.refl w,Nat.le_refl _,fun _ _=>rfl,fun _ _ _ h _ _=>h,fun _ cur _ h=>⟨cur,h,rfl,rfl⟩⟩
theorem Fr.trans {n:Nat} {v:Value} {w'':World} (h:Fr s n v w w') (k:Fr s n v w' w''):Fr s n v w w'':=
 ⟨h.env.trans k.env,Nat.le_trans h.size k.size,fun b hb=>(k.stat b hb).trans (h.stat b hb),fun b o h1 h2 h3 h4=>k.cells b o h1 (h.cells b o h1 h2 h3 h4) h3 h4,fun g cur h1 h2=>by
  obtain ⟨c1,a1,a2,a3⟩:=h.own g cur h1 h2;obtain ⟨c2,b1,b2,b3⟩:=k.own g c1 h1 a1;exact ⟨c2,b1,b2.trans a2,b3.trans a3⟩⟩
theorem Fr.touch {n:Nat} {v:Value} {w'':World} (h:Fr s n v w w') (hlo:s.lo<=w.heap.size) {m:Nat} (hg:w'.grownBy w'' (some m)) (hm:w.heap.size<=m\/(¬s.stat m/\∃es c,w.heap[m]?=some (.map es c))):Fr s n v w w'':=by
 have hlt:∀{b:Nat} {o:Obj},w.heap[b]?=some o->b<w.heap.size:=fun h=>(Array.getElem?_eq_some_iff.1 h).1
 refine ⟨h.env.trans (Env.grown hg),Nat.le_trans h.size hg.size,fun b hb=> ?_,fun b o h1 h2 h3 h4=> ?_,fun g cur h1 h2=> ?_⟩
 · have hbl:b<w.heap.size:=Nat.lt_of_lt_of_le hb.1 hlo
   rw [hg.block b (Nat.lt_of_lt_of_le hbl h.size) (fun e=>by
    injection e with e
    subst e;rcases hm with hm|hm
    · omega
    exact hm.1 hb)]
   exact h.stat b hb
 · have hbl:=hlt h2
   rw [hg.block b (Nat.lt_of_lt_of_le hbl h.size) (fun e=>by
    injection e with e
    subst e;rcases hm with hm|⟨_,es,c,hm⟩
    · omega
    rw [h2] at hm;injection hm with hm;exact h3 es c hm)]
   exact h.cells b o h1 h2 h3 h4
 have hbl:=hlt h2;obtain ⟨c1,a1,a2,a3⟩:=h.own g cur h1 h2;refine ⟨c1, ?_,a2,a3⟩
 rw [hg.block g (Nat.lt_of_lt_of_le hbl h.size) (fun e=>by
  injection e with e
  subst e;rcases hm with hm|⟨_,es,c,hm⟩
  · omega
  rw [h2] at hm;injection hm with hm;cases hm)]
 exact a1
theorem Fr.pure {n:Nat} {v:Value} {w'':World} (h:Fr s n v w w') (hlo:s.lo<=w.heap.size) (hb:Below w.heap.size w' w''):Fr s n v w w'':=by
 have hlt:∀{b:Nat} {o:Obj},w.heap[b]?=some o->b<w.heap.size:=fun h=>(Array.getElem?_eq_some_iff.1 h).1
 refine ⟨h.env.trans (Env.below hb),Nat.le_trans h.size hb.size,fun b hs=>(hb.block b (Nat.lt_of_lt_of_le hs.1 hlo)).trans (h.stat b hs),fun b o h1 h2 h3 h4=>(hb.block b (hlt h2)).trans (h.cells b o h1 h2 h3 h4),fun g cur h1 h2=> ?_⟩;obtain ⟨c1,a1,a2,a3⟩:=h.own g cur h1 h2;exact ⟨c1,(hb.block g (hlt h2)).trans a1,a2,a3⟩
theorem Fr.push {n:Nat} {v:Value} {w'':World} (h:Fr s n v w w') (hlo:s.lo<=w.heap.size) {g cap:Nat} (hgl:s.lo<=g) (hg:w'.grownBy w'' v.ownBlock)
 (ha:(∃cur cur',v= .slice (some ⟨g,0,none⟩) n cap/\w'.heap[g]?=some (.cells cur 9 (0,0))/\w''.heap[g]?=some (.cells cur' 9 (0,0))/\cur'.size=cur.size/\cur'.toList.take n=cur.toList.take n)\/(g=w'.heap.size/\w'.grownBy w'' none)):Fr s n v w w'':=by
 have hlt:∀{b:Nat} {o:Obj},w.heap[b]?=some o->b<w.heap.size:=fun h=>(Array.getElem?_eq_some_iff.1 h).1
 rcases ha with ⟨cur,cur',hv,k1,k2,k3,k4⟩|⟨_,hn⟩
 · have hvb:v.ownBlock=some g:=by rw [hv];rfl
   rw [hvb] at hg;refine ⟨h.env.trans (Env.grown hg),Nat.le_trans h.size hg.size,fun b hb=> ?_,fun b o h1 h2 h3 h4=> ?_,fun g' Xy h1 h2=> ?_⟩
   · rw [hg.block b (Nat.lt_of_lt_of_le (Nat.lt_of_lt_of_le hb.1 hlo) h.size) (fun e=>by injection e with e;have:=hb.1;omega)];exact h.stat b hb
   · rw [hg.block b (Nat.lt_of_lt_of_le (hlt h2) h.size) (fun e=>h4 (by rw [hvb,e]))];exact h.cells b o h1 h2 h3 h4
   have e:g'=g:=by rw [hvb] at h1;injection h1 with h1;exact h1.symm
   subst e;obtain ⟨c1,a1,a2,a3⟩:=h.own g' Xy h1 h2;rw [k1] at a1;simp only [Option.some.injEq,Obj.cells.injEq,and_true] at a1;subst a1;exact ⟨cur',k2,k3.trans a2,k4.trans a3⟩
 have hb:Below w'.heap.size w' w'':=⟨hn.os,hn.tape,hn.output,hn.size,fun k hk=>hn.block k hk (by simp)⟩;exact h.pure hlo (hb.mono h.size)
end
def jg (n:Nat):Value:= .int .u8 n
def ek (b:Nat):Value:= .map (some b)
def bY (_:Unit):Value:= .agg #[]
def Xz (v:Value):Value:=v
def eZ (K:Nat->List (aa × Unit)) (b:Nat) (k:List (aa × Unit)):Nat->List (aa × Unit):=fun c=>if c=b then k else K c
structure gM (s:Sp) (pks:List Pk) (w:World) (C XS IS:List (aa × Nat)) (E:List (aa × Value)) (K:Nat->List (aa × Unit)):Prop where
 cm:ah jg w s.cm C
 xm:ah ek w s.xm XS
 im:ah ek w s.im IS
 em:ah Xz w s.em E
 ks:∀b∈XS.map (·.2)++IS.map (·.2),s.lo<=b/\ah bY w b (K b)/\∀x∈af (K b),x∈bT pks
 nd:s.nr->(XS.map (·.2)++IS.map (·.2)).Nodup
 same:∀t,(ai XS t).isSome=(ai IS t).isSome
 cc:∀t c,ai C t=some c->c=1\/c=2
def bw (C:List (aa × Nat)) (t:aa):Nat:=(ai C t).getD 0
def fx (XS:List (aa × Nat)) (K:Nat->List (aa × Unit)) (t:aa):Option (List aa):=(ai XS t).map fun b=>af (K b)
section
variable {s:Sp} {pks:List Pk} {w w':World} {C XS IS:List (aa × Nat)} {E:List (aa × Value)} {K:Nat->List (aa × Unit)}
theorem gM.pure (h:gM s pks w C XS IS E K) (hb:Below w.heap.size w w'):gM s pks w' C XS IS E K:=
 ⟨h.cm.pure hb,h.xm.pure hb,h.im.pure hb,h.em.pure hb,fun b hm=>⟨(h.ks b hm).1,(h.ks b hm).2.1.pure hb,(h.ks b hm).2.2⟩,h.nd,h.same,h.cc⟩
theorem gM.bx (h:gM s pks w C XS IS E K) {t:aa} {b:Nat} (hg:ai XS t=some b):b∈XS.map (·.2)++IS.map (·.2):=List.mem_append_left _ (List.mem_map.2 ⟨_,jm hg,rfl⟩)
theorem gM.bi (h:gM s pks w C XS IS E K) {t:aa} {b:Nat} (hg:ai IS t=some b):b∈XS.map (·.2)++IS.map (·.2):=List.mem_append_right _ (List.mem_map.2 ⟨_,jm hg,rfl⟩)
theorem gM.touch (h:gM s pks w C XS IS E K) (BJ:∀b∈s.maps,b<s.lo) {b:Nat} (hb:b∈XS.map (·.2)++IS.map (·.2)) (hg:w.grownBy w' (some b)) {K1:List (aa × Unit)} (hM:ah bY w' b K1) (hK:∀x∈af K1,x∈bT pks):gM s pks w' C XS IS E (eZ K b K1):=by
 have hlo:=(h.ks b hb).1;have hne:∀m∈s.maps,(some b:Option Nat)≠some m:=fun m hm e=>by injection e with e;have:=BJ m hm;omega
 refine ⟨h.cm.grown hg (hne _ (by simp [Sp.maps])),h.xm.grown hg (hne _ (by simp [Sp.maps])),h.im.grown hg (hne _ (by simp [Sp.maps])),h.em.grown hg (hne _ (by simp [Sp.maps])),fun c hc=> ?_,h.nd,h.same,h.cc⟩;by_cases e:c=b
 · subst e;simp only [eZ,if_pos];exact ⟨hlo,hM,hK⟩
 simp only [eZ,if_neg e];obtain ⟨k1,k2,k3⟩:=h.ks c hc;exact ⟨k1,k2.grown hg (fun e'=>by injection e' with e';exact e e'.symm),k3⟩
theorem gM.other (h:gM s pks w C XS IS E K) (BJ:∀b∈s.maps,b<s.lo) {m:Nat} (hm:m∈s.maps) (hg:w.grownBy w' (some m)):∀b∈XS.map (·.2)++IS.map (·.2),s.lo<=b/\ah bY w' b (K b)/\∀x∈af (K b),x∈bT pks:=fun b hb=>by
 obtain ⟨k1,k2,k3⟩:=h.ks b hb;exact ⟨k1,k2.grown hg (fun e=>by injection e with e;have:=BJ m hm;omega),k3⟩
theorem lG (hn:s.maps.Nodup):s.cm≠s.em/\s.cm≠s.xm/\s.cm≠s.im/\s.em≠s.xm/\s.em≠s.im/\s.xm≠s.im:=by
 simp [Sp.maps] at hn;omega
theorem gM.setC (h:gM s pks w C XS IS E K) (BJ:∀b∈s.maps,b<s.lo) (hn:s.maps.Nodup) (hg:w.grownBy w' (some s.cm)) {p:aa} {n:Nat} (hM:ah jg w' s.cm (bN C p n)) (hnn:n=1\/n=2):gM s pks w' (bN C p n) XS IS E K:=by
 obtain ⟨n1,n2,n3,n4,n5,n6⟩:=lG hn;refine ⟨hM,h.xm.grown hg (by simpa using n2),h.im.grown hg (by simpa using n3),h.em.grown hg (by simpa using n1),h.other BJ (by simp [Sp.maps]) hg,h.nd,h.same,fun t c hc=> ?_⟩;rw [bk] at hc;split at hc
 · injection hc with hc;omega
 exact h.cc t c hc
theorem gM.setE (h:gM s pks w C XS IS E K) (BJ:∀b∈s.maps,b<s.lo) (hn:s.maps.Nodup) (hg:w.grownBy w' (some s.em)) {E':List (aa × Value)} (hM:ah Xz w' s.em E'):gM s pks w' C XS IS E' K:=by
 obtain ⟨n1,n2,n3,n4,n5,n6⟩:=lG hn;exact ⟨h.cm.grown hg (by simpa using Ne.symm n1),h.xm.grown hg (by simpa using n4),h.im.grown hg (by simpa using n5),hM,h.other BJ (by simp [Sp.maps]) hg,h.nd,h.same,h.cc⟩
theorem gX {p t:aa} {n:Nat}:bw (bN C p n) t=upd (bw C) p n t:=by
 unfold bw upd;rw [bk];by_cases h:t=p
 · subst h;simp
 simp [h,Ne.symm h]
theorem I8 {l:List (aa × Nat)} (hn:(l.map (·.2)).Nodup) {t u:aa} {b:Nat} (h1:ai l t=some b) (h2:ai l u=some b):t=u:=by
 have m1:=jm h1;have m2:=jm h2;clear h1 h2
 induction l with
 | nil=>cases m1
 | cons a l ih=>
   rw [List.map_cons,List.nodup_cons] at hn;rcases List.mem_cons.1 m1 with e1|m1<;>rcases List.mem_cons.1 m2 with e2|m2
   · rw [<-e1] at e2;injection e2 with e2 _;exact e2.symm
   · exact absurd (List.mem_map.2 ⟨_,m2,by rw [<-e1]⟩) hn.1
   · exact absurd (List.mem_map.2 ⟨_,m1,by rw [<-e2]⟩) hn.1
   exact ih hn.2 m1 m2
theorem BK (h:gM s pks w C XS IS E K) (hr:s.nr) {a t:aa} {b:Nat} (hg:ai XS a=some b) (K1:List (aa × Unit)):fx XS (eZ K b K1) t=if t=a then some (af K1) else fx XS K t:=by
 unfold fx;by_cases e:t=a
 · subst e;simp [hg,eZ]
 rw [if_neg e]
 cases ht:ai XS t with
 | none=>rfl
 | some c=>
   have:c≠b:=fun e'=>by
    subst e';exact e (I8 (List.nodup_append.1 (h.nd hr)).1 ht hg)
   simp [eZ,this]
theorem yf (h:gM s pks w C XS IS E K) (hr:s.nr) {a:aa} {b:Nat} (hg:ai IS a=some b) (K1:List (aa × Unit)):fx XS (eZ K b K1)=fx XS K:=by
 funext t;unfold fx
 cases ht:ai XS t with
 | none=>rfl
 | some c=>
   have:c≠b:=fun e'=>by
    subst e';exact (List.nodup_append.1 (h.nd hr)).2.2 c (List.mem_map.2 ⟨_,jm ht,rfl⟩) c (List.mem_map.2 ⟨_,jm hg,rfl⟩) rfl
   simp [eZ,this]
theorem nG (K1:Nat->List (aa × Unit)) (t:aa):(fx XS K1 t).isSome=(fx XS K t).isSome:=by
 unfold fx;cases ai XS t<;>rfl
end
section
variable {P:Program} {β:Type} {f:β->Value} {w:World} {m:Nat} {l:List (aa × β)}
theorem pX {t k e:TypeId} (ht:P.underlying t=some (.map k e)) (hk:P.underlying k=some .string) (h:ah f w m l) (s:aa) (b:β) (hg:ai l s=some b):
 (Instr.mapUpdate t (.map (some m)) (.string s) (f b)).run P w= .ok () w:=by
 obtain ⟨es,ia,hb,hm,h3,h4,h5⟩:=h;rcases find_spec s es.toList l hm 0 with ⟨h1,_⟩|⟨j,b',h1,h2,⟨e',g1,g2,g3⟩,_⟩
 · rw [hg] at h1;cases h1
 rw [hg] at h1;obtain rfl:b=b':=Option.some.inj h1;have hj:es[0+j]?=some e':=by simpa using g1
 have hes:(es.modify (0+j) fun e=>{e with key:= .string s,val:=f b})=es:=by
  apply Array.ext_getElem?;intro i;rw [Array.getElem?_modify];by_cases hi:0+j=i
  · subst hi;rw [if_pos rfl,hj,Option.map_some];cases e';simp only at g2 g3;rw [g2,g3]
  rw [if_neg hi]
 have XA:Go.ChangeMaps.setBlock w m (.map es ia)=w:=by
  have hh:w.heap.setIfInBounds m (.map es ia)=w.heap:=by
   apply Array.ext_getElem?;intro i;rw [Array.getElem?_setIfInBounds];by_cases hi:m=i
   · subst hi;rw [if_pos rfl,hb];simp [(Array.getElem?_eq_some_iff.1 hb).1]
   rw [if_neg hi]
  cases w;simp only [Go.ChangeMaps.setBlock] at hh ⊢;rw [hh]
 simp only [Instr.mapUpdate,Sem.run_bind,run_underlying ht,Result.andThen,MapKept.run_getObj_map hb,MapKept.run_checkKey hk (ku s),MapKept.run_findKey hk h2,hj,Option.map_some,Option.getD_some,g2,Instr.keyThatStays,Instr.sameBits,
  (MapKept.bytes_beq s s).2 rfl,if_true,Sem.run_pure,MapKept.run_setObj_map _ hb]
 rw [hes];exact congrArg (Result.ok ()) XA
theorem jw {w:World} {ops:Array Oper} {rest:List Oper} {o:Oper} {a:Act} {Q:Exit->Act->World->Prop} {m:Nat} {l:List (aa × Unit)} (hg:o.guard=none) (mo x v:Operand) (t:TypeId) (hop:o.op=Op.mapUpdate t mo x v) (k e:TypeId) (ht:P.underlying t=some (.map k e)) (hk:P.underlying k=some .string)
 (hm:a.eval mo= .map (some m)) (h:ah bY w m l) {s:aa} (hx:a.eval x= .string s) (hv:a.eval v=bY ())
 (hK:∀w',ah bY w' m (bN l s ())->w.grownBy w' (some m)->w'.heap.size=w.heap.size->(s∈af l->w'=w)->wpList P ops Q rest (a.put o.dst undef) w'):wpList P ops Q (o::rest) a w:=by
 refine wpList_plain hg fun K' hK'=> ?_
 obtain ⟨w',hrun,h1,h2,h3⟩:=lY ht hk h s ()
 have h4:s∈af l->w'=w:=fun hs=>by
  obtain ⟨⟨⟩,hb⟩:=Option.isSome_iff_exists.1 (aF.2 hs);rw [pX ht hk h s () hb] at hrun;injection hrun with _ hrun;exact hrun.symm
 unfold Oper.wp;simp only [execOp,hop,hm,hx,hv,Sem.run_bind,hrun,Result.andThen,Sem.run_pure,Oper.upon_skip];exact hK' _ _ (hK w' h1 h2 h3 h4)
end
def gz (w:World) (it:Nat):Nat:=match w.heap[it]? with
 | some (.mapIter (some m) _ seen _)=>(match w.heap[m]? with|some (.map es _)=>(leftOf es seen).size|_=>0)
 | _=>0
theorem aG {β:Type} {f:β->Value} {w:World} {m r:Nat} {l left:List (aa × β)} (h:aL f w m r l left):gz w r=left.length:=by
 obtain ⟨_,_,es,ia,seen,h3,h4,_,h6,_⟩:=h;have:=congrArg List.length h6;simp at this;simp [gz,h3,h4,this]
structure jN {β:Type} (f:β->Value) (w0:World) (tgt:Nat) (K0:List (aa × Unit)) (src it:Nat) (l left:List (aa × β)) (wr:World) (K:List (aa × Unit)):Prop where
 iter:aL f wr src it l left
 grown:w0.grownBy wr (some tgt)
 set:ah bY wr tgt K
 keys:∀x,x∈af K↔x∈af K0\/(x∈af l/\x∉af left)
 lt:tgt<w0.heap.size
 ne:tgt=src->∀x∈af l,x∈af K
 it_:w0.heap.size<=it
section
variable {β:Type} {f:β->Value} {w0 wr:World} {tgt src it:Nat} {K0 K:List (aa × Unit)} {l left:List (aa × β)}
theorem jN.start {w1:World} (hM:ah bY w0 tgt K0) (hI:aL f w1 src w0.heap.size l l) (hb:Below w0.heap.size w0 w1) (hne:tgt=src->∀x∈af l,x∈af K0):jN f w0 tgt K0 src w0.heap.size l l w1 K0:=
 ⟨hI,⟨hb.os,hb.tape,hb.output,hb.size,fun k hk _=>hb.block k hk⟩,hM.pure hb,fun x=>⟨.inl,fun h=>by rcases h with h|h;exact h;exact absurd h.1 h.2⟩,hM.lt,hne,Nat.le_refl _⟩
theorem jN.step (h:jN f w0 tgt K0 src it l left wr K) {x:aa} {b:β} {left':List (aa × β)} {w1 w2:World} (hI:aL f w1 src it l left') (ba:∀p,p∈left↔p=(x,b)\/p∈left') (hns:x∉af left') (hg1:wr.grownBy w1 (some it)) (hM:ah bY w2 tgt (bN K x ())) (hg2:w1.grownBy w2 (some tgt)) (hsm:x∈af K->w2=w1):
 jN f w0 tgt K0 src it l left' w2 (bN K x ()):=by
 have hit:tgt≠it:=by have:=h.lt;have:=h.it_;omega
 have hkl:∀y,y∈af left↔y=x\/y∈af left':=fun y=>by
  simp only [af,List.mem_map];constructor
  · rintro ⟨q,hq,rfl⟩;rcases (ba q).1 hq with rfl|h
    · exact .inl rfl
    exact .inr ⟨q,h,rfl⟩
  rintro (rfl|⟨q,hq,rfl⟩)
  · exact ⟨_,(ba _).2 (.inl rfl),rfl⟩
  exact ⟨q,(ba q).2 (.inr hq),rfl⟩
 have hxl:x∈af l:=by
  have:(x,b)∈left:=(ba _).2 (.inl rfl);exact List.mem_map.2 ⟨_,h.iter.sub.subset this,rfl⟩
 have eI:aL f w2 src it l left':=by
  by_cases hts:tgt=src
  · rw [hsm (h.ne hts x hxl)];exact hI
  exact hI.grown hg2 (by intro e;injection e with e;exact hts e) (by intro e;injection e with e;exact hit e)
 refine ⟨eI,⟨(hg2.os.trans hg1.os).trans h.grown.os,(hg2.tape.trans hg1.tape).trans h.grown.tape,(hg2.output.trans hg1.output).trans h.grown.output,Nat.le_trans h.grown.size (Nat.le_trans hg1.size hg2.size),fun k hk hne=> ?_⟩,hM,fun y=> ?_,h.lt,fun e y hy=>bH.2 (.inr (h.ne e y hy)),h.it_⟩
 · have h1:=h.grown.size;have h2:=hg1.size;rw [hg2.block k (by omega) hne,hg1.block k (by omega) (by intro e;injection e with e;have:=h.it_;omega)];exact h.grown.block k hk hne
 rw [bH,h.keys,hkl];constructor
 · rintro (rfl|h1|⟨h1,h2⟩)
   · exact .inr ⟨hxl,hns⟩
   · exact .inl h1
   exact .inr ⟨h1,fun h3=>h2 (.inr h3)⟩
 rintro (h1|⟨h1,h2⟩)
 · exact .inr (.inl h1)
 by_cases e:y=x
 · exact .inl e
 exact .inr (.inr ⟨h1,fun h3=>by rcases h3 with h3|h3;exact e h3;exact h2 h3⟩)
theorem jN.done (h:jN f w0 tgt K0 src it l [] wr K):∀x,x∈af K↔x∈af K0\/x∈af l:=fun x=>by rw [h.keys];simp [af]
end
end Go.Proofs.YtjenhelmpcajfaaGreatDoor
