/- words for memory: what may change, slices and maps that read as lists -/
import Derived.WalkKit
import Derived.WalkSpells
import Derived.WalkLawsBesides
import Derived.Maps.RangeRun
import Derived.Deep.AppendLies
import Derived.Deep.RegionLaw
set_option linter.all false
namespace Go.Proofs.YtjenhelmpcajfaaGreatDoor
open Go.RowKit
theorem Y0 {p:Prop} (h:p):Hid p:=h
theorem Y2 {a b:Prop} (x:a) (y:b):Hid (a∧b):=⟨x,y⟩
theorem Y3 {a b c:Prop} (x:a) (y:b) (z:c):Hid (a∧b∧c):=⟨x,y,z⟩
theorem Y4 {a b c d:Prop} (x:a) (y:b) (z:c) (u:d):Hid (a∧b∧c∧d):=⟨x,y,z,u⟩
theorem Y5 {a b c d e:Prop} (x:a) (y:b) (z:c) (u:d) (v:e):Hid (a∧b∧c∧d∧e):=⟨x,y,z,u,v⟩
theorem Y6 {a b c d e f:Prop} (x:a) (y:b) (z:c) (u:d) (v:e) (w:f):Hid (a∧b∧c∧d∧e∧f):=⟨x,y,z,u,v,w⟩
theorem Y7 {a b c d e f g:Prop} (x:a) (y:b) (z:c) (u:d) (v:e) (w:f) (t:g):Hid (a∧b∧c∧d∧e∧f∧g):=⟨x,y,z,u,v,w,t⟩
theorem Y8 {a b c d e f g h:Prop} (x:a) (y:b) (z:c) (u:d) (v:e) (w:f) (t:g) (s:h):Hid (a∧b∧c∧d∧e∧f∧g∧h):=⟨x,y,z,u,v,w,t,s⟩
theorem aA {α:Type _} (l:List α) (i:Nat) (a:α):l.toArray.setIfInBounds i a=(l.set i a).toArray:=List.setIfInBounds_toArray ..
theorem aB {α:Type _} (x:α) (l:List α) (a:α):(x::l).set 0 a=a::l:=List.set_cons_zero ..
theorem aC {α:Type _} (x:α) (l:List α) (n:Nat) (a:α):(x::l).set (n+1) a=x::l.set n a:=List.set_cons_succ ..
section
open Go.ChangeMaps (setBlock)
abbrev aa:=ByteArray
structure dw (F:Nat->Prop) (w:World) (F':Nat->Prop) (w':World):Prop where
 size:w.heap.size<=w'.heap.size
 keep:∀b,b<w.heap.size->¬F b->w'.heap[b]?=w.heap[b]?
 grow:∀b,F b->F' b
 old:∀b,b<w.heap.size->F' b->F b
 lt:(∀b,F b->b<w.heap.size)->∀b,F' b->b<w'.heap.size
theorem dw.refl (F:Nat->Prop) (w:World):dw F w F w:=⟨Nat.le_refl _,fun _ _ _=>rfl,fun _ h=>h,fun _ _ h=>h,fun h=>h⟩
theorem dw.trans {F F' N6:Nat->Prop} {w w' w'':World} (h:dw F w F' w') (k:dw F' w' N6 w''):dw F w N6 w'':=
 ⟨Nat.le_trans h.size k.size,fun b hb hF=>(k.keep b (Nat.lt_of_lt_of_le hb h.size) (fun q=>hF (h.old b hb q))).trans (h.keep b hb hF),
  fun b hb=>k.grow b (h.grow b hb),fun b hb q=>h.old b hb (k.old b (Nat.lt_of_lt_of_le hb h.size) q),fun q=>k.lt (h.lt q)⟩
theorem dw.pure {F:Nat->Prop} {w w':World} (h:Below w.heap.size w w'):dw F w F w':=
 ⟨h.size,fun b hb _=>h.block b hb,fun _ q=>q,fun _ _ q=>q,fun q b hb=>Nat.lt_of_lt_of_le (q b hb) h.size⟩
theorem dw.alloc {F:Nat->Prop} (w:World) (o:Obj):dw F w (fun b=>F b\/b=w.heap.size) (w.alloc o):=
 ⟨by simp,fun b hb _=>Below.heap_alloc w o b hb,fun _ h=> .inl h,fun b hb h=>by rcases h with h|h;exact h;omega,fun q b hb=>by
  rcases hb with hb|hb
  · have:=q b hb;simp;omega
  simp;omega⟩
theorem dw.setCell {F:Nat->Prop} {w:World} {a:Addr} (ha:F a.block) (v:Value):dw F w F (w.setCell a v):=
 ⟨by simp,fun b _ hF=>Below.heap_setCell _ _ _ _ (fun e=>hF (e▸ha)),fun _ h=>h,fun _ _ h=>h,fun q b hb=>by simpa using q b hb⟩
theorem dw.drew {F:Nat->Prop} {w w':World} {F':Nat->Prop} (h:dw F w F' w'):dw F w F' w'.drew:=⟨h.size,h.keep,h.grow,h.old,h.lt⟩
theorem dw.grown {F:Nat->Prop} {w w':World} {row:Option Nat} (h:w.grownBy w' row) (hr:∀k,row=some k->F k):dw F w F w':=
 ⟨h.size,fun b hb hF=>h.block b hb (fun e=>hF (hr b e.symm)),fun _ q=>q,fun _ _ q=>q,fun q b hb=>Nat.lt_of_lt_of_le (q b hb) h.size⟩
theorem dw.more {F F' N6:Nat->Prop} {w w':World} (h:dw F w F' w') (hn:∀b,N6 b->F' b\/(w.heap.size<=b/\b<w'.heap.size)) (hg:∀b,F' b->N6 b):dw F w N6 w':=
 ⟨h.size,h.keep,fun b q=>hg b (h.grow b q),fun b hb q=>by rcases hn b q with q|q;exact h.old b hb q;omega,
  fun q b hb=>by rcases hn b hb with r|r;exact h.lt q b r;exact r.2⟩
theorem below_of {w w':World} {row:Option Nat} (h:w.grownBy w' row) (hr:row=none):Below w.heap.size w w':=
 ⟨h.os,h.tape,h.output,h.size,fun k hk=>h.block k hk (by simp [hr])⟩
structure Kd (α:Type) where
 sz:Nat
 rep:(Nat->Prop)->World->α->List Value->Prop
 len:∀{F w x cs},rep F w x cs->cs.length=sz
 one:∀{F w x cs},rep F w x cs->∀u∈cs,u.oneCell'=true
 step:∀{F F':Nat->Prop} {w w':World} {x cs},(∀b,b<w.heap.size->F' b->F b)->(∀b,b<w.heap.size->¬F b->w'.heap[b]?=w.heap[b]?)->rep F w x cs->rep F' w' x cs
def Rd {α:Type} (d:Kd α) (F:Nat->Prop) (w:World) (v:Value) (xs:List α):Prop:=
 ∃(A:Option Addr) (cap:Nat),v= .slice A xs.length cap/\xs.length<=cap/\cap<=maxLen/\
  (xs= []\/∃g off,A=some ⟨g,off,none⟩/\¬F g/\g<w.heap.size/\
   ∀i x,xs[i]?=some x->∃cs,d.rep F w x cs/\∀j u,cs[j]?=some u->w.cell? ⟨g,off+i*d.sz+j,none⟩=some u)
theorem Rd.step' {α:Type} {d:Kd α} {F F':Nat->Prop} {w w':World} {v:Value} {xs:List α} (h:Rd d F w v xs)
 (ho:∀b,b<w.heap.size->F' b->F b) (hk:∀b,b<w.heap.size->¬F b->w'.heap[b]?=w.heap[b]?):Rd d F' w' v xs:=by
 obtain ⟨A,cap,hv,hc,hm,h⟩:=h;refine ⟨A,cap,hv,hc,hm, ?_⟩;rcases h with h|⟨g,off,hA,hF,hg,h⟩
 · exact .inl h
 have hgg:w'.heap[g]?=w.heap[g]?:=hk g hg hF
 have hlt:g<w'.heap.size:=by
  have h1:w.heap[g]?.isSome:=by simp [hg]
  rw [<-hgg] at h1;simpa using h1
 refine .inr ⟨g,off,hA,fun q=>hF (ho g hg q),hlt,fun i x hx=> ?_⟩;obtain ⟨cs,hr,hcs⟩:=h i x hx;exact ⟨cs,d.step ho hk hr,fun j u hu=>(World.cell?_of_block (w:=w) (a:=⟨g,off+i*d.sz+j,none⟩) hgg).trans (hcs j u hu)⟩
theorem Rd.step {α:Type} {d:Kd α} {F F':Nat->Prop} {w w':World} {v:Value} {xs:List α} (h:Rd d F w v xs) (s:dw F w F' w'):Rd d F' w' v xs:=h.step' s.old s.keep
theorem Rd.pure {α:Type} {d:Kd α} {F:Nat->Prop} {w w':World} {v:Value} {xs:List α} (h:Rd d F w v xs) (s:Below w.heap.size w w'):Rd d F w' v xs:=h.step (.pure s)
theorem Rd.less {α:Type} {d:Kd α} {F F':Nat->Prop} {w:World} {v:Value} {xs:List α} (h:Rd d F w v xs) (s:∀b,b<w.heap.size->F' b->F b):Rd d F' w v xs:=h.step' s (fun _ _ _=>rfl)
theorem Rd.form {α:Type} {d:Kd α} {F:Nat->Prop} {w:World} {v:Value} {xs:List α} (h:Rd d F w v xs):∃A cap,v= .slice A xs.length cap:=by
 obtain ⟨A,cap,hv,_⟩:=h;exact ⟨A,cap,hv⟩
theorem Rd.bound {α:Type} {d:Kd α} {F:Nat->Prop} {w:World} {A:Option Addr} {n cap:Nat} {xs:List α} (h:Rd d F w (.slice A n cap) xs):n=xs.length/\n<=cap/\cap<=9223372036854775807:=by
 obtain ⟨A',cap',hv,hc,hm,_⟩:=h;simp only [Value.slice.injEq] at hv;obtain ⟨rfl,rfl,rfl⟩:=hv;exact ⟨rfl,hc,by simpa [maxLen] using hm⟩
theorem Rd.nil {α:Type} (d:Kd α) (F:Nat->Prop) (w:World) (A:Option Addr) (cap:Nat) (h:cap<=maxLen):Rd d F w (.slice A 0 cap) []:=⟨A,cap,rfl,Nat.zero_le _,h, .inl rfl⟩
theorem Rd.at_ {α:Type} {d:Kd α} {F:Nat->Prop} {w:World} {A:Option Addr} {n cap:Nat} {xs:List α} (h:Rd d F w (.slice A n cap) xs) {i:Nat} {x:α} (hx:xs[i]?=some x):
 ∃g off cs,A=some ⟨g,off,none⟩/\¬F g/\g<w.heap.size/\d.rep F w x cs/\∀j u,cs[j]?=some u->w.cell? ⟨g,off+i*d.sz+j,none⟩=some u:=by
 obtain ⟨A',cap',hv,hc,hm,h⟩:=h;simp only [Value.slice.injEq] at hv;obtain ⟨rfl,rfl,rfl⟩:=hv;rcases h with h|⟨g,off,hA,hF,hg,h⟩
 · subst h;simp at hx
 obtain ⟨cs,hr,hcs⟩:=h i x hx;exact ⟨g,off,cs,hA,hF,hg,hr,hcs⟩
def aD:Kd aa where
 sz:=1
 rep:=fun _ _ x cs=>cs= [.string x]
 len:=fun h=>by rw [h];rfl
 one:=fun h u hu=>by rw [h] at hu;simp at hu;rw [hu];rfl
 step:=fun _ _ h=>h
abbrev bK (F:Nat->Prop) (w:World) (v:Value) (xs:List aa):Prop:=Rd aD F w v xs
theorem Rd.at1 {F:Nat->Prop} {w:World} {A:Option Addr} {n cap:Nat} {xs:List aa} (h:bK F w (.slice A n cap) xs) {i:Nat} (hi:i<xs.length):
 ∃g off,A=some ⟨g,off,none⟩/\¬F g/\g<w.heap.size/\w.cell? ⟨g,off+i,none⟩=some (.string xs[i]):=by
 obtain ⟨g,off,cs,hA,hF,hg,hr,hc⟩:=h.at_ (List.getElem?_eq_getElem hi);have:cs= [.string xs[i]]:=hr;subst this;refine ⟨g,off,hA,hF,hg, ?_⟩;simpa [aD] using hc 0 _ rfl
def B6 {α:Type} (d:Kd α):Kd (List α) where
 sz:=1
 rep:=fun F w xs cs=>∃v,cs= [v]/\Rd d F w v xs
 len:=fun ⟨v,h,_⟩=>by rw [h];rfl
 one:=fun ⟨v,h,hr⟩ u hu=>by
  obtain ⟨A,c,rfl⟩:=hr.form;rw [h] at hu;simp at hu;rw [hu];rfl
 step:=fun ho hk ⟨v,h,hr⟩=>⟨v,h,hr.step' ho hk⟩
theorem Rd.take {α:Type} {d:Kd α} {F:Nat->Prop} {w:World} {A:Option Addr} {n cap:Nat} {xs:List α} (h:Rd d F w (.slice A n cap) xs) (k:Nat) (hk:k<=xs.length):Rd d F w (.slice A k cap) (xs.take k):=by
 obtain ⟨A',cap',hv,hc,hm,h⟩:=h;simp only [Value.slice.injEq] at hv;obtain ⟨rfl,rfl,rfl⟩:=hv;refine ⟨A,cap,by simp [Nat.min_eq_left hk],by simp;omega,hm, ?_⟩;rcases h with h|⟨g,off,hA,hF,hg,h⟩
 · left;simp [h]
 exact .inr ⟨g,off,hA,hF,hg,fun i x hx=>h i x (by
  rw [List.getElem?_take] at hx;split at hx
  · exact hx
  cases hx)⟩
theorem Rd.drop {α:Type} {d:Kd α} {F:Nat->Prop} {w:World} {g off n cap:Nat} {xs:List α} (h:Rd d F w (.slice (some ⟨g,off,none⟩) n cap) xs) (k:Nat) (hk:k<=xs.length):Rd d F w (.slice (some ⟨g,off+k*d.sz,none⟩) (n - k) (cap - k)) (xs.drop k):=by
 obtain ⟨A',cap',hv,hc,hm,h⟩:=h;simp only [Value.slice.injEq] at hv;obtain ⟨rfl,rfl,rfl⟩:=hv;refine ⟨some ⟨g,off+k*d.sz,none⟩,cap - k,by simp,by simp;omega,by omega, ?_⟩;rcases h with h|⟨g',off',hA,hF,hg,h⟩
 · left;simp [h]
 simp only [Option.some.injEq,Addr.mk.injEq,and_true] at hA;obtain ⟨rfl,rfl⟩:=hA;refine .inr ⟨g,off+k*d.sz,rfl,hF,hg,fun i x hx=> ?_⟩;rw [List.getElem?_drop] at hx;obtain ⟨cs,hr,hcs⟩:=h _ x hx;refine ⟨cs,hr,fun j u hu=> ?_⟩;have:=hcs j u hu;rw [show off+k*d.sz+i*d.sz+j=off+(k+i)*d.sz+j by rw [Nat.add_mul];omega];exact this
theorem Rd.drop1 {F:Nat->Prop} {w:World} {g off n cap:Nat} {xs:List aa} (h:bK F w (.slice (some ⟨g,off,none⟩) n cap) xs) (k:Nat) (hk:k<=xs.length):bK F w (.slice (some ⟨g,off+k,none⟩) (n - k) (cap - k)) (xs.drop k):=by
 have:=h.drop k hk
 rwa [show k*aD.sz=k from Nat.mul_one k] at this
def Own {α:Type} (d:Kd α) (base:Nat) (e:TypeId) (F:Nat->Prop) (w:World) (v:Value) (xs:List α):Prop:=
 ∃cs,w.ownsRow base e d.sz v xs.length cs/\(∀k,v.ownBlock=some k->F k)/\
  ∀i x,xs[i]?=some x->∃c,d.rep F w x c/\(cs.drop (i*d.sz)).take d.sz=c
theorem Own.nil {α:Type} (d:Kd α) (base:Nat) (e:TypeId) (F:Nat->Prop) (w:World):Own d base e F w (.slice none 0 0) []:=
 ⟨[],World.ownsRow_nil w base e d.sz,by simp [Value.ownBlock],by simp⟩
theorem Own.form {α:Type} {d:Kd α} {base:Nat} {e:TypeId} {F:Nat->Prop} {w:World} {v:Value} {xs:List α} (h:Own d base e F w v xs):∃A cap,v= .slice A xs.length cap:=by
 obtain ⟨cs,h,_⟩:=h;rcases h.2 with ⟨rfl,h0⟩|⟨g,cap,cur,rfl,_⟩
 · exact ⟨none,0,by rw [h0]⟩
 exact ⟨_,cap,rfl⟩
theorem bD {w w':World} {base:Nat} {e:TypeId} {size:Nat} {v:Value} {n:Nat} {xs:List Value} (h:w.ownsRow base e size v n xs) (hk:∀k,v.ownBlock=some k->w'.heap[k]?=w.heap[k]?):w'.ownsRow base e size v n xs:=by
 refine ⟨h.1, ?_⟩;rcases h.2 with hn|⟨g,cap,cur,rfl,hb,hgg,rest⟩
 · exact .inl hn
 exact .inr ⟨g,cap,cur,rfl,hb,by rw [hk g rfl];exact hgg,rest⟩
theorem Own.step {α:Type} {d:Kd α} {base:Nat} {e:TypeId} {F F':Nat->Prop} {w w':World} {v:Value} {xs:List α} (h:Own d base e F w v xs) (s:dw F w F' w') (hk:∀k,v.ownBlock=some k->w'.heap[k]?=w.heap[k]?):Own d base e F' w' v xs:=by
 obtain ⟨cs,h1,h2,h3⟩:=h;refine ⟨cs,bD h1 hk,fun k q=>s.grow k (h2 k q),fun i x hx=> ?_⟩;obtain ⟨c,hr,hc⟩:=h3 i x hx;exact ⟨c,d.step s.old s.keep hr,hc⟩
theorem Own.pure {α:Type} {d:Kd α} {base:Nat} {e:TypeId} {F:Nat->Prop} {w w':World} {v:Value} {xs:List α} (h:Own d base e F w v xs) (s:Below w.heap.size w w'):Own d base e F w' v xs:=by
 obtain ⟨cs,h1,h2⟩:=h;exact Own.step ⟨cs,h1,h2⟩ (.pure s) (fun k hk=>s.block k (h1.lt k hk).2)
theorem Own.rd {α:Type} {d:Kd α} {base:Nat} {e:TypeId} {F F0:Nat->Prop} {w:World} {v:Value} {xs:List α} (h:Own d base e F w v xs) (h0:∀b,F0 b->b<base) (hF:∀b,F0 b->F b) (hs:0<d.sz):Rd d F0 w v xs:=by
 obtain ⟨cs,h1,h2,h3⟩:=h;rcases h1.2 with ⟨rfl,hn⟩|⟨g,cap,cur,rfl,hb,hgg,hnc,hcm,hsz,htake⟩
 · have:xs= []:=List.eq_nil_of_length_eq_zero hn;subst this;exact Rd.nil d F0 w none 0 (by simp [maxLen])
 refine ⟨_,cap,rfl,hnc,hcm, ?_⟩;refine .inr ⟨g,0,rfl,fun q=>by have:=h0 g q;omega,(Array.getElem?_eq_some_iff.1 hgg).1,fun i x hx=> ?_⟩;obtain ⟨c,hr,hc⟩:=h3 i x hx;refine ⟨c,d.step (fun b _ q=>hF b q) (fun _ _ _=>rfl) hr,fun j u hu=> ?_⟩;have hl:=d.len hr;have hj:j<d.sz:=by rw [<-hl];exact (List.getElem?_eq_some_iff.1 hu).1
 rw [<-hc,List.getElem?_take,if_pos hj,List.getElem?_drop] at hu;have:=h1.cells (g:=g) rfl (i*d.sz+j) u hu
 have hadd:(⟨g,0,none⟩:Addr).add (i*d.sz+j)=⟨g,0+i*d.sz+j,none⟩:=by
  unfold Addr.add;split
  · simp_all
  simp
 rw [hadd] at this;exact this
theorem Rd.flat {α:Type} {d:Kd α} {F:Nat->Prop} {w:World} {A:Option Addr} {n cap:Nat} {xs:List α} (h:Rd d F w (.slice A n cap) xs):
 ∃cs:List Value,cs.length=xs.length*d.sz/\(∀u∈cs,u.oneCell'=true)/\(∀i x,xs[i]?=some x->∃c,d.rep F w x c/\(cs.drop (i*d.sz)).take d.sz=c)/\
  (xs= []\/∃g off,A=some ⟨g,off,none⟩/\∀j u,cs[j]?=some u->w.cell? ⟨g,off+j,none⟩=some u):=by
 obtain ⟨A',cap',hv,hc,hm,h⟩:=h;simp only [Value.slice.injEq] at hv;obtain ⟨rfl,rfl,rfl⟩:=hv;rcases h with rfl|⟨g,off,hA,hF,hg,h⟩
 · exact ⟨[],by simp,by simp,by simp, .inl rfl⟩
 ·
  have key:∀(ys:List α) (k:Nat),(∀i,ys[i]?=xs[k+i]?)->∃cs:List Value,cs.length=ys.length*d.sz/\(∀u∈cs,u.oneCell'=true)/\(∀i x,ys[i]?=some x->∃c,d.rep F w x c/\(cs.drop (i*d.sz)).take d.sz=c)/\
   (∀j u,cs[j]?=some u->w.cell? ⟨g,off+k*d.sz+j,none⟩=some u):=by
   intro ys
   induction ys with
   | nil=>intro k _;exact ⟨[],by simp,by simp,by simp,by simp⟩
   | cons y ys ih=>
     intro k hk;obtain ⟨cs,h1,h2,h3,h4⟩:=ih (k+1) (fun i=>by have:=hk (i+1);simpa [Nat.add_assoc,Nat.add_comm 1 i] using this);obtain ⟨c,hr,hcc⟩:=h k y (by have:=hk 0;simpa using this.symm);have hl:=d.len hr;refine ⟨c++cs,by simp [hl,h1,Nat.add_mul];omega, ?_, ?_, ?_⟩
     · intro u hu;rcases List.mem_append.1 hu with hu|hu
       · exact d.one hr u hu
       exact h2 u hu
     · intro i x hx
       cases i with
       | zero=>
         simp at hx;subst hx
         exact ⟨c,hr,by simp [<-hl]⟩
       | succ i=>
         obtain ⟨c',hr',hc'⟩:=h3 i x (by simpa using hx);refine ⟨c',hr', ?_⟩;rw [show (i+1)*d.sz=c.length+i*d.sz by rw [hl,Nat.add_mul];omega,List.drop_append,List.drop_eq_nil_of_le (by omega),List.nil_append,show c.length+i*d.sz - c.length=i*d.sz by omega];exact hc'
     intro j u hu;rcases Nat.lt_or_ge j c.length with hj|hj
     · rw [List.getElem?_append_left hj] at hu;exact hcc j u hu
     rw [List.getElem?_append_right hj] at hu;have:=h4 _ u hu;rw [show off+(k+1)*d.sz+(j - c.length)=off+k*d.sz+j by rw [Nat.add_mul];omega] at this;exact this
  obtain ⟨cs,h1,h2,h3,h4⟩:=key xs 0 (by simp);exact ⟨cs,h1,h2,h3, .inr ⟨g,off,hA,fun j u hu=>by simpa using h4 j u hu⟩⟩
section
variable {P:Program} {α:Type} {d:Kd α}
theorem qu {F:Nat->Prop} {w:World} {base:Nat} (t ty e:TypeId) (z:Value) (bytes:Nat) (ht:P.underlying t=some (.slice e))
 (hinfo:(P.info? e).map (fun i=>(i.zero,i.size,i.bytes))=some (some z,d.sz,bytes)) (hz:z.cells.size=d.sz) (hsz:0<d.sz)
 {v src:Value} {xs ys:List α} (hO:Own d base e F w v xs) (hR:Rd d F w src ys) (hl:xs.length+ys.length<=maxLen) (hb:(xs.length+ys.length)*bytes<=140737488355328) (hbase:base<=w.heap.size):
 ∃v' w' F',(Builtin.append_ #[t,t] ty #[v,src]).run P w= .ok v' w'/\Own d base e F' w' v' (xs++ys)/\dw F w F' w'/\Below base w w'/\w.grownBy w' v.ownBlock:=by
 obtain ⟨i0,hi,hzz⟩:=Option.map_eq_some_iff.1 hinfo;simp only [Prod.mk.injEq] at hzz;obtain ⟨hz0,hz1,hz2⟩:=hzz;obtain ⟨A,c,rfl⟩:=hR.form;obtain ⟨news,n1,n2,n3,n4⟩:=hR.flat
 obtain ⟨olds,o1,o2,o3⟩:=hO;have Hb:∀k,v.ownBlock=some k->base<=k:=fun k hk=>(o1.lt k hk).1
 have step:∃v' w',(Builtin.append_ #[t,t] ty #[v, .slice A ys.length c]).run P w= .ok v' w'/\w'.ownsRow base e d.sz v' (xs.length+ys.length) (olds++news)/\w.grownBy w' v.ownBlock/\(v'.ownBlock=v.ownBlock\/v'.ownBlock=some w.heap.size):=by
  have sM:∀ad:Addr,(∀j u,news[j]?=some u->w.cell? (ad.add j)=some u)->∃v' w',(Builtin.append_ #[t,t] ty #[v, .slice (some ad) ys.length c]).run P w= .ok v' w'/\w'.ownsRow base e d.sz v' (xs.length+ys.length) (olds++news)/\w.grownBy w' v.ownBlock/\(v'.ownBlock=v.ownBlock\/v'.ownBlock=some w.heap.size):=by
   intro ad had;obtain ⟨v',w',hr,h2,h3,_,h5⟩:=run_append_own_at (P:=P) w base t ty e i0 z d.sz bytes ht hi hz0 hz1 hz2 hz hsz v xs.length olds o1 ad ys.length c news n1 had n2 hl hb hbase;exact ⟨v',w',hr,h2,h3,h5⟩
  rcases n4 with rfl|⟨g,off,rfl,hc⟩
  · have:news= []:=List.eq_nil_of_length_eq_zero (by simpa using n1);subst this
    cases A with
    | some ad=>exact sM ad (by simp)
    | none=>
      simp only [List.length_nil,Nat.add_zero,List.append_nil];refine ⟨v,w, ?_,o1,⟨rfl,rfl,rfl,Nat.le_refl _,fun _ _ _=>rfl⟩, .inl rfl⟩;rcases o1.2 with ⟨rfl,_⟩|⟨g,cap,cur,rfl,_,_,hnc,_⟩
      · simp [Builtin.append_,run_underlying ht,sizeOf,typeInfo,hi,Builtin.lenOf,Builtin.firstCells]
      simp [Builtin.append_,run_underlying ht,sizeOf,typeInfo,hi,Builtin.lenOf,Builtin.firstCells,hnc,storeCells]
  refine sM _ (fun j u hu=> ?_);rw [show (⟨g,off,none⟩:Addr).add j=⟨g,off+j,none⟩ by unfold Addr.add;split<;>simp_all];exact hc j u hu
 obtain ⟨v',w',hr,h2,h3,h5⟩:=step;have U8:dw F w F w':= .grown h3 o2
 have hof:∀b,(F b\/v'.ownBlock=some b)->F b\/(w.heap.size<=b/\b<w'.heap.size):=by
  intro b hb;rcases hb with hb|hb
  · exact .inl hb
  rcases h5 with h5|h5
  · exact .inl (o2 b (h5▸hb))
  have hlt:=(h2.lt b hb).2;rw [h5] at hb;injection hb with hb
  exact .inr ⟨by omega,hlt⟩
 have vQ:dw F w (fun b=>F b\/v'.ownBlock=some b) w':=U8.more hof (fun b q=> .inl q);refine ⟨v',w',fun b=>F b\/v'.ownBlock=some b,hr,⟨olds++news,by simpa using h2,fun k hk=> .inr hk, ?_⟩,vQ, ?_,h3⟩
 · intro i x hx;rcases Nat.lt_or_ge i xs.length with hlt|hge
   · rw [List.getElem?_append_left hlt] at hx;obtain ⟨c',hr',hc'⟩:=o3 i x hx;refine ⟨c',d.step vQ.old vQ.keep hr', ?_⟩;have h0:(i+1)*d.sz<=xs.length*d.sz:=Nat.mul_le_mul_right _ hlt;have hle:i*d.sz+d.sz<=olds.length:=by rw [o1.1];rw [Nat.add_mul] at h0;omega
     rw [List.drop_append_of_le_length (by omega),List.take_append_of_le_length (by simp;omega)];exact hc'
   rw [List.getElem?_append_right hge] at hx;obtain ⟨c',hr',hc'⟩:=n3 _ x hx;refine ⟨c',d.step vQ.old vQ.keep hr', ?_⟩;have h0:xs.length*d.sz<=i*d.sz:=Nat.mul_le_mul_right _ hge;rw [List.drop_append,List.drop_eq_nil_of_le (by rw [o1.1];exact h0),List.nil_append,o1.1,show i*d.sz - xs.length*d.sz=(i - xs.length)*d.sz by rw [Nat.sub_mul]];exact hc'
 exact (Below.refl base w).grown h3 hbase Hb
theorem aH {ops:Array Oper} {rest:List Oper} {o:Oper} {a:Act} {Q:Exit->Act->World->Prop} {F:Nat->Prop} {w:World} {base:Nat} (hgd:o.guard=none) (s x:Operand) (t:TypeId)
 (ho:o.op= .call {callee:= .builtin .append,args:= #[s,x],argTypes:= #[t,t]})
 (d:Kd α) (e:TypeId) (z:Value) (bytes:Nat) (ht:P.underlying t=some (.slice e))
 (hinfo:(P.info? e).map (fun i=>(i.zero,i.size,i.bytes))=some (some z,d.sz,bytes)) (hz:z.cells.size=d.sz) (hsz:0<d.sz)
 {v src:Value} {xs ys:List α} (hs:a.eval s=v) (hx:a.eval x=src) (hO:Own d base e F w v xs) (hR:Rd d F w src ys) (hl:xs.length+ys.length<=maxLen) (hb:(xs.length+ys.length)*bytes<=140737488355328) (hbase:base<=w.heap.size) {zs:List α} (hzs:xs++ys=zs) (n:Nat) (hn:zs.length=n)
 (h:∀A c w' F',Own d base e F' w' (.slice A n c) zs->dw F w F' w'->Below base w w'->w.grownBy w' v.ownBlock->wpList P ops Q rest (a.put o.dst (.slice A n c)) w'):
 wpList P ops Q (o::rest) a w:=by
 subst hzs hn;refine wpList_plain hgd fun K hK=> ?_
 obtain ⟨v',w',F',hr,h2,h3,h4,h5⟩:=qu (P:=P) t o.type e z bytes ht hinfo hz hsz hO hR hl hb hbase;obtain ⟨A,c,rfl⟩:=h2.form;unfold Oper.wp execOp;simp only [ho,resolve,invoke,builtin,Sem.run_bind,Sem.run_pure,Result.andThen_ok,List.map_toArray,List.map_cons,List.map_nil,hs,hx,hr];exact hK _ _ (h A c w' F' h2 h3 h4 h5)
theorem fg {ops:Array Oper} {o:Oper} {a:Act} {K:Act->World->Prop} {Q:Exit->Act->World->Prop} {E:Prop} {F:Nat->Prop} {w:World} {base:Nat} (hgd:o.guard=none) (s x:Operand) (t:TypeId)
 (ho:o.op= .call {callee:= .builtin .append,args:= #[s,x],argTypes:= #[t,t]})
 (d:Kd α) (e:TypeId) (z:Value) (bytes:Nat) (ht:P.underlying t=some (.slice e))
 (hinfo:(P.info? e).map (fun i=>(i.zero,i.size,i.bytes))=some (some z,d.sz,bytes)) (hz:z.cells.size=d.sz) (hsz:0<d.sz)
 {v src:Value} {xs ys:List α} (hs:a.eval s=v) (hx:a.eval x=src) (hO:Own d base e F w v xs) (hR:Rd d F w src ys) (hl:xs.length+ys.length<=maxLen) (hb:(xs.length+ys.length)*bytes<=140737488355328) (hbase:base<=w.heap.size) {zs:List α} (hzs:xs++ys=zs) (n:Nat) (hn:zs.length=n)
 (h:∀A c w' F',Own d base e F' w' (.slice A n c) zs->dw F w F' w'->Below base w w'->w.grownBy w' v.ownBlock->K (a.put o.dst (.slice A n c)) w'):
 if Region.wanted o (yielded ops a.tmps)=true then Oper.wp P o a w K Q else E:=by
 have hw:Region.wanted o (yielded ops a.tmps)=true:=by simp [Region.wanted,hgd]
 rw [if_pos hw];subst hzs hn;obtain ⟨v',w',F',hr,h2,h3,h4,h5⟩:=qu (P:=P) t o.type e z bytes ht hinfo hz hsz hO hR hl hb hbase;obtain ⟨A,c,rfl⟩:=h2.form;unfold Oper.wp execOp;simp only [ho,resolve,invoke,builtin,Sem.run_bind,Sem.run_pure,Result.andThen_ok,List.map_toArray,List.map_cons,List.map_nil,hs,hx,hr];exact h A c w' F' h2 h3 h4 h5
end
theorem Own.fresh {α:Type} (d:Kd α) {base:Nat} (e:TypeId) (F:Nat->Prop) (w:World) (hb:base<=w.heap.size):Own d base e (fun b=>F b\/b=w.heap.size) (w.alloc (.cells #[] e)) (.slice (some ⟨w.heap.size,0,none⟩) 0 0) []:=
 ⟨[],World.ownsRow_made w #[] 0 hb (by simp [maxLen]) (by simp),fun k hk=>by simp [Value.ownBlock] at hk;exact .inr hk.symm,by simp⟩
theorem Rd.one {α:Type} {d:Kd α} {F:Nat->Prop} {w:World} {e:TypeId} {x:α} {cs:Array Value} (hr:d.rep F (w.alloc (.cells cs e)) x cs.toList) (hF:∀b,F b->b<w.heap.size):Rd d F (w.alloc (.cells cs e)) (.slice (some ⟨w.heap.size,0,none⟩) 1 1) [x]:=by
 refine ⟨_,_,rfl,by simp,by simp [maxLen], .inr ⟨w.heap.size,0,rfl,fun q=>by have:=hF _ q;omega,by simp,fun i y hy=> ?_⟩⟩
 cases i with
 | zero=>
   simp at hy;subst hy;refine ⟨cs.toList,hr,fun j u hu=> ?_⟩;have:=World.news_of_block (heap_alloc_new w (.cells cs e)) j u hu
   rwa [show (⟨w.heap.size,0,none⟩:Addr).add j=⟨w.heap.size,0+0*d.sz+j,none⟩ by unfold Addr.add;split<;>simp_all] at this
 | succ i=>simp at hy
end
section
open Go.ChangeMaps (setBlock)
section
variable {β:Type}
def ai:List (aa × β)->aa->Option β
 | [],_=>none
 | (k,b)::r,s=>if k=s then some b else ai r s
def bN:List (aa × β)->aa->β->List (aa × β)
 | [],s,v=> [(s,v)]
 | (k,b)::r,s,v=>if k=s then (s,v)::r else (k,b)::bN r s v
def lI:List (aa × β)->aa->List (aa × β)
 | [],_=> []
 | (k,b)::r,s=>if k=s then r else (k,b)::lI r s
def af (l:List (aa × β)):List aa:=l.map Prod.fst
theorem fO {l:List (aa × β)} {s:aa}:ai l s=none↔s∉af l:=by
 induction l with
 | nil=>simp [ai,af]
 | cons p r ih=>
   obtain ⟨k,b⟩:=p;simp only [ai,af,List.map_cons,List.mem_cons,not_or];split
   · rename_i h;simp [h]
   rename_i h;rw [ih];simp [af,Ne.symm h]
theorem aF {l:List (aa × β)} {s:aa}:(ai l s).isSome=true↔s∈af l:=by
 rw [Option.isSome_iff_ne_none,ne_eq,fO];simp
theorem bk {l:List (aa × β)} {s t:aa} {v:β}:ai (bN l s v) t=if s=t then some v else ai l t:=by
 induction l with
 | nil=>simp [bN,ai]
 | cons p r ih=>
   obtain ⟨k,b⟩:=p;simp only [bN];split
   · rename_i h;subst h;simp only [ai];split<;>rfl
   rename_i h;simp only [ai,ih];by_cases hk:k=t
   · subst hk;rw [if_pos rfl,if_neg (Ne.symm h),if_pos rfl]
   rw [if_neg hk,if_neg hk]
theorem bH {l:List (aa × β)} {s t:aa} {v:β}:t∈af (bN l s v)↔t=s\/t∈af l:=by
 rw [<-aF,bk,<-aF];by_cases h:s=t
 · simp [h]
 simp [h,Ne.symm h]
theorem nW {l:List (aa × β)} {s:aa} {v:β}:(s∈af l/\af (bN l s v)=af l)\/(s∉af l/\bN l s v=l++ [(s,v)]):=by
 induction l with
 | nil=>right;simp [bN,af]
 | cons p r ih=>
   obtain ⟨k,b⟩:=p;simp only [bN];by_cases h:k=s
   · subst h;left;simp [af]
   rw [if_neg h];have hh:¬s=k:=Ne.symm h;simp only [af,List.map_cons,List.mem_cons,hh,false_or] at ih ⊢;rcases ih with ⟨h1,h2⟩|⟨h1,h2⟩
   · exact .inl ⟨h1,by rw [h2]⟩
   exact .inr ⟨h1,by rw [h2];rfl⟩
theorem jR {l:List (aa × β)} {s:aa} {v:β} (h:(af l).Nodup):(af (bN l s v)).Nodup:=by
 rcases nW (l:=l) (s:=s) (v:=v) with ⟨_,h2⟩|⟨h1,h2⟩
 · rw [h2];exact h
 rw [h2];simp only [af,List.map_append,List.map_cons,List.map_nil];rw [List.nodup_append]
 exact ⟨h,by simp,by
  intro a ha b hb;simp at hb;subst hb;exact fun e=>h1 (e▸ha)⟩
theorem kr {l:List (aa × β)} {s:aa} {v:β}:(bN l s v).length<=l.length+1:=by
 rcases nW (l:=l) (s:=s) (v:=v) with ⟨_,h2⟩|⟨h1,h2⟩
 · have h:(bN l s v).length=(af (bN l s v)).length:=by simp [af]
   rw [h,h2];simp [af]
 rw [h2];simp
theorem vR {l:List (aa × β)} {s t:aa} (h:(af l).Nodup):ai (lI l s) t=if s=t then none else ai l t:=by
 induction l with
 | nil=>simp [lI,ai]
 | cons p r ih=>
   obtain ⟨k,b⟩:=p;simp only [af,List.map_cons,List.nodup_cons] at h;simp only [lI];by_cases hk:k=s
   · subst hk;rw [if_pos rfl];by_cases ht:k=t
     · subst ht;rw [if_pos rfl];exact fO.2 h.1
     rw [if_neg ht];simp [ai,ht]
   rw [if_neg hk];simp only [ai,ih h.2];by_cases ht:k=t
   · subst ht;rw [if_pos rfl,if_neg (Ne.symm hk),if_pos rfl]
   rw [if_neg ht,if_neg ht]
theorem DC {l:List (aa × β)} {s:aa}:(lI l s).Sublist l:=by
 induction l with
 | nil=>exact List.Sublist.refl _
 | cons p r ih=>
   obtain ⟨k,b⟩:=p;simp only [lI];split
   · exact List.sublist_cons_self _ _
   exact ih.cons_cons _
theorem jm {l:List (aa × β)} {s:aa} {v:β} (h:ai l s=some v):(s,v)∈l:=by
 induction l with
 | nil=>simp [ai] at h
 | cons p r ih=>
   obtain ⟨k,b⟩:=p;simp only [ai] at h;split at h
   · rename_i hk;subst hk;injection h with h
     subst h;exact .head _
   exact .tail _ (ih h)
theorem ey {l:List (aa × β)} {s:aa} {v:β} (hn:(af l).Nodup) (h:(s,v)∈l):ai l s=some v:=by
 induction l with
 | nil=>cases h
 | cons p r ih=>
   obtain ⟨k,b⟩:=p;simp only [af,List.map_cons,List.nodup_cons] at hn;simp only [ai];rcases List.mem_cons.1 h with e|h
   · injection e with e1 e2
     rw [if_pos e1.symm,e2]
   rw [if_neg,ih hn.2 h];intro e;subst e;exact hn.1 (List.mem_map.2 ⟨_,h,rfl⟩)
end
def ah {β:Type} (f:β->Value) (w:World) (m:Nat) (l:List (aa × β)):Prop:=
 ∃es ia,w.heap[m]?=some (.map es ia)/\es.toList.map (fun e=>(e.key,e.val))=l.map (fun p=>(Value.string p.1,f p.2))/\
  (∀x∈es.toList,x.born<ia)/\(es.toList.map (·.born)).Nodup/\(af l).Nodup
section
variable {P:Program} {β:Type} {f:β->Value} {w w':World} {m:Nat} {l:List (aa × β)}
theorem ah.lt (h:ah f w m l):m<w.heap.size:=by
 obtain ⟨es,ia,hb,_⟩:=h;exact (Array.getElem?_eq_some_iff.1 hb).1
theorem ah.keep (h:ah f w m l) (hk:w'.heap[m]?=w.heap[m]?):ah f w' m l:=by
 obtain ⟨es,ia,hb,r⟩:=h;exact ⟨es,ia,by rw [hk];exact hb,r⟩
theorem ah.pure (h:ah f w m l) (hb:Below w.heap.size w w'):ah f w' m l:=h.keep (hb.block m h.lt)
theorem ah.grown (h:ah f w m l) {row:Option Nat} (hg:w.grownBy w' row) (hr:row≠some m):ah f w' m l:=h.keep (hg.block m h.lt (Ne.symm hr))
theorem ah.nodup (h:ah f w m l):(af l).Nodup:=h.choose_spec.choose_spec.2.2.2.2
theorem ah.made (w:World) (f:β->Value):ah f (w.alloc (.map #[] 0)) w.heap.size []:=
 ⟨#[],0,heap_alloc_new w _,rfl,by simp,by simp,by simp [af]⟩
theorem ah.alloc (h:ah f w m l) (o:Obj):ah f (w.alloc o) m l:=h.keep (Below.heap_alloc w o m h.lt)
theorem find_spec (s:aa):∀(es:List MapEntry) (l:List (aa × β)),es.map (fun e=>(e.key,e.val))=l.map (fun p=>(Value.string p.1,f p.2))->∀i,
 (ai l s=none/\Instr.findNow .string (.string s) es i=some none)\/
 ∃j b,ai l s=some b/\Instr.findNow .string (.string s) es i=some (some (i+j,f b))/\(∃e,es[j]?=some e/\e.key= .string s/\e.val=f b)/\
  (∀v:β,(es.modify j fun e=>{e with key:= .string s,val:=f v}).map (fun e=>(e.key,e.val))=(bN l s v).map (fun p=>(Value.string p.1,f p.2)))/\
  (es.eraseIdx j).map (fun e=>(e.key,e.val))=(lI l s).map (fun p=>(Value.string p.1,f p.2))
 | [],l,h,i=>by
   have:l= []:=by simpa using h.symm
   subst this
   exact .inl ⟨rfl,rfl⟩
 | e::es, [],h,i=>by simp at h
 | e::es,(k,b)::l,h,i=>by
   simp only [List.map_cons,List.cons.injEq,Prod.mk.injEq] at h;obtain ⟨⟨hk,hv⟩,ht⟩:=h;by_cases hks:k=s
   · subst hks;refine .inr ⟨0,b,by simp [ai], ?_,⟨e,rfl,hk,hv⟩, ?_, ?_⟩
     · simp [Instr.findNow,hk,Instr.sameNow,hv,(MapKept.bytes_beq k k).2 rfl]
     · intro v;simp [bN,ht]
     simp [lI,ht]
   have ZM:Instr.sameNow .string (.string s) e.key=some false:=by
    rw [hk];simp only [Instr.sameNow,Option.some.injEq];rw [Bool.eq_false_iff];intro hh;exact hks ((MapKept.bytes_beq _ _).1 hh).symm
   rcases find_spec s es l ht (i+1) with ⟨h1,h2⟩|⟨j,b',h1,h2,⟨e',h3,h4,h5⟩,h6,h7⟩
   · exact .inl ⟨by simp [ai,hks,h1],by simp [Instr.findNow,ZM,h2]⟩
   refine .inr ⟨j+1,b',by simp [ai,hks,h1], ?_,⟨e',by simpa using h3,h4,h5⟩, ?_, ?_⟩
   · simp [Instr.findNow,ZM,h2];omega
   · intro v;have:=h6 v;simp only [bN,hks,if_false,List.modify_succ_cons,List.map_cons,this,hk,hv]
   simp only [lI,hks,if_false,List.map_cons,List.eraseIdx_cons_succ,h7,hk,hv]
theorem ku (s:aa):MapKept.IsKey .string (.string s):=by simp [MapKept.IsKey]
theorem jC {t k e:TypeId} (ht:P.underlying t=some (.map k e)) (hk:P.underlying k=some .string) {z:Value} (hz:∀w,(zeroValue e).run P w= .ok z w) (h:ah f w m l) (s:aa) (ok:Bool):
 (Instr.lookup t (.map (some m)) (.string s) ok).run P w= .ok (if ok then .tuple #[((ai l s).map f).getD z, .bool (ai l s).isSome] else ((ai l s).map f).getD z) w:=by
 obtain ⟨es,ia,hb,hm,_⟩:=h;rcases find_spec s es.toList l hm 0 with ⟨h1,h2⟩|⟨j,b,h1,h2,_⟩
 · simp only [Instr.lookup,Sem.run_bind,run_underlying ht,Result.andThen,MapKept.run_getObj_map hb,Sem.run_pure,MapKept.run_checkKey hk (ku s),MapKept.run_findKey hk h2,hz,h1];cases ok<;>simp
 simp only [Instr.lookup,Sem.run_bind,run_underlying ht,Result.andThen,MapKept.run_getObj_map hb,Sem.run_pure,MapKept.run_checkKey hk (ku s),MapKept.run_findKey hk h2,h1];cases ok<;>simp
theorem DF {t k e:TypeId} (ht:P.underlying t=some (.map k e)) (hk:P.underlying k=some .string) {z:Value} (hz:∀w,(zeroValue e).run P w= .ok z w) (s:aa) (ok:Bool):
 (Instr.lookup t (.map none) (.string s) ok).run P w= .ok (if ok then .tuple #[z, .bool false] else z) w:=by
 have h2:Instr.findNow .string (.string s) [] 0=some none:=rfl;simp only [Instr.lookup,Sem.run_bind,run_underlying ht,Result.andThen,Sem.run_pure,MapKept.run_checkKey hk (ku s),MapKept.run_findKey hk h2,hz]
theorem fB (w:World) (m:Nat) (o:Obj):w.grownBy (setBlock w m o) (some m):=
 ⟨rfl,rfl,rfl,by simp [setBlock],fun k hk hne=>by
  have:m≠k:=fun e=>hne (by rw [e])
  simp [setBlock,this]⟩
theorem oX (es:List MapEntry) (j:Nat) (k v:Value):(es.modify j fun e=>({e with key:=k,val:=v}:MapEntry)).map (·.born)=es.map (·.born):=by
 induction es generalizing j with
 | nil=>simp
 | cons e es ih=>
   cases j with
   | zero=>rfl
   | succ j=>
     have:=ih j;simp only [List.modify_succ_cons,List.map_cons,this]
theorem lY {t k e:TypeId} (ht:P.underlying t=some (.map k e)) (hk:P.underlying k=some .string) (h:ah f w m l) (s:aa) (b:β):
 ∃w',(Instr.mapUpdate t (.map (some m)) (.string s) (f b)).run P w= .ok () w'/\ah f w' m (bN l s b)/\w.grownBy w' (some m)/\w'.heap.size=w.heap.size:=by
 obtain ⟨es,ia,hb,hm,h3,h4,h5⟩:=h;have hlt:m<w.heap.size:=(Array.getElem?_eq_some_iff.1 hb).1;rcases find_spec s es.toList l hm 0 with ⟨h1,h2⟩|⟨j,b',h1,h2,⟨e',g1,g2,g3⟩,g4,_⟩
 · refine ⟨setBlock w m (.map (es.push {key:= .string s,val:=f b,born:=ia}) (ia+1)), ?_, ?_,fB _ _ _,by simp [setBlock]⟩
   · simp only [Instr.mapUpdate,Sem.run_bind,run_underlying ht,Result.andThen,MapKept.run_getObj_map hb,MapKept.run_checkKey hk (ku s),MapKept.run_findKey hk h2,MapKept.run_setObj_map _ hb];rfl
   refine ⟨es.push {key:= .string s,val:=f b,born:=ia},ia+1,by simp [setBlock,hlt], ?_, ?_, ?_,jR h5⟩
   · have hput:bN l s b=l++ [(s,b)]:=by
      have hn:=fO.1 h1;clear h2 h1 hm h3 h4 h5
      induction l with
      | nil=>rfl
      | cons p r ih=>
        obtain ⟨q,c⟩:=p;simp only [af,List.map_cons,List.mem_cons,not_or] at hn;simp only [bN,if_neg (Ne.symm hn.1),List.cons_append];rw [ih hn.2]
     rw [hput];simp [hm]
   · intro x hx;simp at hx;rcases hx with hx|rfl
     · have:=h3 x (by simpa using hx);omega
     simp
   simp only [Array.toList_push,List.map_append,List.map_cons,List.map_nil];rw [List.nodup_append];refine ⟨h4,by simp,fun a ha c hc=> ?_⟩;obtain ⟨x,hx,rfl⟩:=List.mem_map.1 ha;simp at hc;have:=h3 x hx;omega
 have hj:es[0+j]?=some e':=by simpa using g1
 refine ⟨setBlock w m (.map (es.modify (0+j) fun e=>{e with key:= .string s,val:=f b}) ia), ?_, ?_,fB _ _ _,by simp [setBlock]⟩
 · simp only [Instr.mapUpdate,Sem.run_bind,run_underlying ht,Result.andThen,MapKept.run_getObj_map hb,MapKept.run_checkKey hk (ku s),MapKept.run_findKey hk h2,hj,Option.map_some,Option.getD_some,g2,Instr.keyThatStays,Instr.sameBits,
    (MapKept.bytes_beq s s).2 rfl,if_true,Sem.run_pure,MapKept.run_setObj_map _ hb]
   rfl
 refine ⟨es.modify (0+j) fun e=>{e with key:= .string s,val:=f b},ia,by simp [setBlock,hlt], ?_, ?_, ?_,jR h5⟩
 · rw [Array.toList_modify,Nat.zero_add];exact g4 b
 · intro x hx;rw [Array.toList_modify] at hx
   have hmem:x.born∈es.toList.map (·.born):=by
    rw [<-oX es.toList (0+j) (.string s) (f b)];exact List.mem_map.2 ⟨x,hx,rfl⟩
   obtain ⟨y,hy,he⟩:=List.mem_map.1 hmem;rw [<-he];exact h3 y hy
 rw [Array.toList_modify,oX];exact h4
theorem yX {t k e ty:TypeId} (ht:P.underlying t=some (.map k e)) (hk:P.underlying k=some .string) (h:ah f w m l) (s:aa) (k2:TypeId):
 ∃w',(Builtin.delete_ #[t,k2] ty #[.map (some m), .string s]).run P w= .ok (.tuple #[]) w'/\ah f w' m (lI l s)/\w.grownBy w' (some m)/\w'.heap.size=w.heap.size:=by
 obtain ⟨es,ia,hb,hm,h3,h4,h5⟩:=h;have hlt:m<w.heap.size:=(Array.getElem?_eq_some_iff.1 hb).1;have GD:(af (lI l s)).Nodup:=(DC.map _).nodup h5;rcases find_spec s es.toList l hm 0 with ⟨h1,h2⟩|⟨j,b',h1,h2,⟨e',g1,g2,g3⟩,_,g5⟩
 · refine ⟨setBlock w m (.map es ia), ?_,⟨es,ia,by simp [setBlock,hlt], ?_,h3,h4,GD⟩,fB _ _ _,by simp [setBlock]⟩
   · simp [Builtin.delete_,run_underlying ht,Result.andThen,MapKept.run_getObj_map hb,MapKept.run_checkKey hk (ku s),MapKept.run_findKey hk h2,MapKept.run_setObj_map _ hb,setBlock]
   have hdel:lI l s=l:=by
    have hn:=fO.1 h1;clear h2 h1 hm h3 h4 h5 GD
    induction l with
    | nil=>rfl
    | cons p r ih=>
      obtain ⟨q,c⟩:=p;simp only [af,List.map_cons,List.mem_cons,not_or] at hn;simp only [lI,if_neg (Ne.symm hn.1)];rw [ih hn.2]
   rw [hdel];exact hm
 have hjl:j<es.size:=by
  have:=(List.getElem?_eq_some_iff.1 g1).1;simpa using this
 have her:(es.eraseIdxIfInBounds (0+j)).toList=es.toList.eraseIdx j:=by
  simp [Array.eraseIdxIfInBounds,hjl]
 refine ⟨setBlock w m (.map (es.eraseIdxIfInBounds (0+j)) ia), ?_,⟨es.eraseIdxIfInBounds (0+j),ia,by simp [setBlock,hlt], ?_, ?_, ?_,GD⟩,fB _ _ _,by simp [setBlock]⟩
 · simp [Builtin.delete_,run_underlying ht,Result.andThen,MapKept.run_getObj_map hb,MapKept.run_checkKey hk (ku s),MapKept.run_findKey hk h2,MapKept.run_setObj_map _ hb,setBlock]
 · rw [her];exact g5
 · intro x hx;rw [her] at hx;exact h3 x ((List.eraseIdx_sublist _ _).subset hx)
 rw [her];exact ((List.eraseIdx_sublist _ _).map _).nodup h4
theorem run_len_map {t k e ty:TypeId} (ht:P.underlying t=some (.map k e)) (h:ah f w m l):(Builtin.len_ #[t] ty #[.map (some m)]).run P w= .ok (.int .i64 l.length) w:=by
 obtain ⟨es,ia,hb,hm,_⟩:=h
 have:es.size=l.length:=by
  have:=congrArg List.length hm;simpa using this
 simp [Builtin.len_,run_underlying ht,Result.andThen,MapKept.run_getObj_map hb,this];rfl
end
def aL {β:Type} (f:β->Value) (w:World) (m r:Nat) (l left:List (aa × β)):Prop:=
 r≠m/\ah f w m l/\∃es ia seen,w.heap[m]?=some (.map es ia)/\w.heap[r]?=some (.mapIter (some m) ia seen ia)/\
  es.toList.map (fun e=>(e.key,e.val))=l.map (fun p=>(Value.string p.1,f p.2))/\
  (leftOf es seen).toList.map (fun e=>(e.key,e.val))=left.map (fun p=>(Value.string p.1,f p.2))/\left.Sublist l
section
variable {P:Program} {β:Type} {f:β->Value} {w w':World} {m r:Nat} {l left:List (aa × β)}
theorem aL.map (h:aL f w m r l left):ah f w m l:=h.2.1
theorem aL.lt (h:aL f w m r l left):r<w.heap.size:=by
 obtain ⟨_,_,es,ia,seen,_,hr,_⟩:=h;exact (Array.getElem?_eq_some_iff.1 hr).1
theorem aL.ne (h:aL f w m r l left):r≠m:=h.1
theorem aL.keep (h:aL f w m r l left) (hm:w'.heap[m]?=w.heap[m]?) (hr:w'.heap[r]?=w.heap[r]?):aL f w' m r l left:=by
 obtain ⟨h1,h2,es,ia,seen,h3,h4,h5⟩:=h;exact ⟨h1,h2.keep hm,es,ia,seen,by rw [hm];exact h3,by rw [hr];exact h4,h5⟩
theorem aL.pure (h:aL f w m r l left) (hb:Below w.heap.size w w'):aL f w' m r l left:=h.keep (hb.block m h.map.lt) (hb.block r h.lt)
theorem aL.grown (h:aL f w m r l left) {row:Option Nat} (hg:w.grownBy w' row) (h1:row≠some m) (h2:row≠some r):aL f w' m r l left:=
 h.keep (hg.block m h.map.lt (Ne.symm h1)) (hg.block r h.lt (Ne.symm h2))
theorem aL.nodup (h:aL f w m r l left):(af left).Nodup:=(h.2.2.choose_spec.choose_spec.choose_spec.2.2.2.2.map _).nodup h.map.nodup
theorem aL.sub (h:aL f w m r l left):left.Sublist l:=h.2.2.choose_spec.choose_spec.choose_spec.2.2.2.2
theorem Ca {t k e:TypeId} (ht:P.underlying t=some (.map k e)) (h:ah f w m l):
 ∃w',(Instr.range t (.map (some m))).run P w= .ok (.pointer (some ⟨w.heap.size,0,none⟩)) w'/\aL f w' m w.heap.size l l/\Below w.heap.size w w'/\w'.heap.size=w.heap.size+1:=by
 have hlt:=h.lt;obtain ⟨es,ia,hb,hm,r⟩:=id h;refine ⟨_,run_range_map w t k e m es ia ht hb,⟨by omega,h.alloc _,es,ia, #[], ?_,heap_alloc_new w _,hm, ?_,List.Sublist.refl _⟩,(Below.refl _ _).alloc (Nat.le_refl _) _,by simp⟩
 · rw [Below.heap_alloc w _ m hlt];exact hb
 have:leftOf es #[]=es:=by simp [leftOf]
 rw [this];exact hm
theorem DG (h:aL f w m r l left) (ty:TypeId):
 (left= []/\(Instr.next (.pointer (some ⟨r,0,none⟩)) false ty).run P w= .ok (.tuple #[.bool false]) w)\/
 ∃s b rest w',(s,b)∈left/\ai l s=some b/\(Instr.next (.pointer (some ⟨r,0,none⟩)) false ty).run P w= .ok (.tuple #[.bool true, .string s,f b]) w'/\
  aL f w' m r l rest/\(∀p,p∈left↔p=(s,b)\/p∈rest)/\rest.length+1=left.length/\s∉af rest/\w.grownBy w' (some r)/\w'.heap.size=w.heap.size/\
  (Instr.entry (.pointer (some ⟨r,0,none⟩))).run P w'= .ok (.tuple #[.string s,f b]) w':=by
 have hnd:=h.nodup;obtain ⟨hne,hmap,es,ia,seen,hb,hr,hm,hl,hsub⟩:=h;obtain ⟨es',aab,hb',hm',hlt,hnb,Cb⟩:=id hmap;rw [hb] at hb';injection hb' with hb'
 injection hb' with he hc
 subst he hc;rcases run_next_at (P:=P) w ty r m ia ia seen es ia hr hb hlt (Nat.le_refl _) with ⟨h0,hrun⟩|⟨e,he,w1,hw1,hrun⟩
 · left;refine ⟨?_,hrun⟩;have:=congrArg List.length hl;simp [h0] at this;simpa using this.symm
 right;obtain ⟨i,hi,Lj⟩:=List.mem_iff_getElem.1 he;have hlen:(leftOf es seen).toList.length=left.length:=by simpa using congrArg List.length hl
 have hil:i<left.length:=by omega
 obtain ⟨⟨s,b⟩,AQ⟩:∃p,left[i]=p:=⟨_,rfl⟩
 have hkv:(e.key,e.val)=(Value.string s,f b):=by
  have:=congrArg (fun z=>z[i]?) hl;simp only [List.getElem?_map,List.getElem?_eq_getElem hi,List.getElem?_eq_getElem hil,Option.map_some,Option.some.injEq,Lj,AQ] at this;exact this
 injection hkv with hk hv
 have O8:r<w.heap.size:=(Array.getElem?_eq_some_iff.1 hr).1;have mQ:w1.heap=w.heap:=by rcases hw1 with rfl|rfl<;>rfl
 have ij:((leftOf es seen).toList.map (·.born)).Nodup:=by
  have hs:(leftOf es seen).toList.Sublist es.toList:=by
   simp only [leftOf,Array.toList_filter];exact List.filter_sublist
  exact (hs.map _).nodup hnb
 have hrest:(leftOf es (seen.push e.born)).toList=(leftOf es seen).toList.eraseIdx i:=by
  have h1:leftOf es (seen.push e.born)=(leftOf es seen).filter (fun x=>x.born !=e.born):=by
   simp only [leftOf,Array.filter_filter];congr 1;funext x;rw [Array.contains_push];cases seen.contains x.born<;>cases hh:(x.born==e.born)<;>simp_all [bne]
  rw [h1,Array.toList_filter];generalize (leftOf es seen).toList=L at hi Lj ij;clear h1 hlen hl he hrun AQ hil
  induction L generalizing i with
  | nil=>simp at hi
  | cons y L ih=>
    simp only [List.map_cons,List.nodup_cons] at ij
    cases i with
    | zero=>
      simp at Lj;subst Lj;simp only [bne_self_eq_false,Bool.false_eq_true,not_false_eq_true,List.filter_cons_of_neg,List.eraseIdx_zero,List.tail_cons];rw [List.filter_eq_self];intro x hx;have:x.born≠y.born:=fun q=>ij.1 (List.mem_map.2 ⟨x,hx,q⟩)
      simpa using this
    | succ i=>
      simp at Lj hi;have hmem:e∈L:=by rw [<-Lj];exact List.getElem_mem _
      have:y.born≠e.born:=fun q=>ij.1 (List.mem_map.2 ⟨e,hmem,q.symm⟩)
      rw [List.filter_cons_of_pos (by simpa using this),List.eraseIdx_cons_succ,ih i hi Lj ij.2]
 have hmem:(s,b)∈left:=by rw [<-AQ];exact List.getElem_mem _
 refine ⟨s,b,left.eraseIdx i,setBlock w1 r (.mapIter (some m) ia (seen.push e.born) ia),hmem,ey hmap.nodup (hsub.subset hmem), ?_,⟨hne,hmap.keep ?_,es,ia,seen.push e.born, ?_, ?_,hm, ?_,(List.eraseIdx_sublist _ _).trans hsub⟩, ?_, ?_, ?_, ?_, ?_, ?_⟩
 · rw [hrun,hk,hv]
 · show (w1.heap.setIfInBounds r _)[m]?=_;rw [mQ];simp [hne]
 · show (w1.heap.setIfInBounds r _)[m]?=_;rw [mQ];simp [hne];exact hb
 · show (w1.heap.setIfInBounds r _)[r]?=_;rw [mQ];simp [O8]
 · rw [hrest,Go.ChangeMaps.map_eraseIdx,Go.ChangeMaps.map_eraseIdx,hl]
 · intro p
   have O9:∀(L:List (aa × β)) (i:Nat) (hi:i<L.length) (p:aa × β),p∈L↔p=L[i]\/p∈L.eraseIdx i:=by
    intro L
    induction L with
    | nil=>intro i hi;simp at hi
    | cons y L ih=>
      intro i hi p
      cases i with
      | zero=>simp
      | succ i=>
        have:=ih i (by simpa using hi) p;simp only [List.mem_cons,List.getElem_cons_succ,List.eraseIdx_cons_succ,this];constructor
        · rintro (h|h|h)
          · exact .inr (.inl h)
          · exact .inl h
          exact .inr (.inr h)
        rintro (h|h|h)
        · exact .inr (.inl h)
        · exact .inl h
        exact .inr (.inr h)
   rw [<-AQ];exact O9 left i hil p
 · rw [List.length_eraseIdx_of_lt hil];omega
 · intro hs
   have qw:∀(L:List (aa × β)) (i:Nat) (hi:i<L.length),(af L).Nodup->L[i].1∉af (L.eraseIdx i):=by
    intro L
    induction L with
    | nil=>intro i hi;simp at hi
    | cons y L ih=>
      intro i hi hn;simp only [af,List.map_cons,List.nodup_cons] at hn
      cases i with
      | zero=>simpa [af] using hn.1
      | succ i=>
        simp only [af,List.getElem_cons_succ,List.eraseIdx_cons_succ,List.map_cons,List.mem_cons,not_or];refine ⟨fun q=>hn.1 ?_,ih i (by simpa using hi) hn.2⟩;rw [<-q];exact List.mem_map.2 ⟨_,List.getElem_mem _,rfl⟩
   have:=qw left i hil hnd;rw [AQ] at this;exact this hs
 · refine ⟨?_, ?_, ?_, ?_,fun k hk2 hkr=> ?_⟩
   · rcases hw1 with rfl|rfl<;>rfl
   · rcases hw1 with rfl|rfl<;>rfl
   · rcases hw1 with rfl|rfl<;>rfl
   · show w.heap.size<=(w1.heap.setIfInBounds r _).size;rw [mQ];simp
   show (w1.heap.setIfInBounds r _)[k]?=_;rw [mQ];have:r≠k:=fun e=>hkr (by rw [e])
   simp [this]
 · show (w1.heap.setIfInBounds r _).size=_;rw [mQ];simp
 have hin:e∈es.toList:=by
  have:e∈(leftOf es seen).toList:=he;simp only [leftOf,Array.toList_filter,List.mem_filter] at this;exact this.1
 rw [<-hk,<-hv];refine run_entry_at _ r m ia seen es ia e ?_ ?_ hin hnb
 · show (w1.heap.setIfInBounds r _)[r]?=_;rw [mQ];simp [O8]
 show (w1.heap.setIfInBounds r _)[m]?=_;rw [mQ];simp [hne];exact hb
end
end
section
variable {P:Program} {β:Type} {f:β->Value} {w:World} {ops:Array Oper} {rest:List Oper} {o:Oper} {a:Act} {Q:Exit->Act->World->Prop} {m:Nat} {l:List (aa × β)}
theorem bL (hg:o.guard=none) (mo x:Operand) (t:TypeId) (hop:o.op=Op.lookup t mo x false) (k e:TypeId) (ht:P.underlying t=some (.map k e)) (hk:P.underlying k=some .string)
 (z:Value) (hz:∀w,(zeroValue e).run P w= .ok z w) (hm:a.eval mo= .map (some m)) (h:ah f w m l) {s:aa} (hx:a.eval x= .string s)
 (hK:wpList P ops Q rest (a.put o.dst (((ai l s).map f).getD z)) w):wpList P ops Q (o::rest) a w:=by
 refine wpList_plain hg fun K' hK'=> ?_
 unfold Oper.wp;have:=jC (f:=f) ht hk hz h s false;simp only [Bool.false_eq_true,if_false] at this;simp [execOp,hop,hm,hx,this,Result.andThen];exact hK' _ _ hK
theorem bA (hg:o.guard=none) (mo x:Operand) (t:TypeId) (hop:o.op=Op.lookup t mo x true) (k e:TypeId) (ht:P.underlying t=some (.map k e)) (hk:P.underlying k=some .string)
 (z:Value) (hz:∀w,(zeroValue e).run P w= .ok z w) (hm:a.eval mo= .map (some m)) (h:ah f w m l) {s:aa} (hx:a.eval x= .string s)
 (hK:wpList P ops Q rest (a.put o.dst (.tuple #[((ai l s).map f).getD z, .bool (ai l s).isSome])) w):wpList P ops Q (o::rest) a w:=by
 refine wpList_plain hg fun K' hK'=> ?_
 unfold Oper.wp;have:=jC (f:=f) ht hk hz h s true;simp only [if_true] at this;simp only [execOp,hop,hm,hx,Sem.run_bind,this,Result.andThen,Sem.run_pure,Oper.upon_value];exact hK' _ _ hK
theorem aM (hg:o.guard=none) (mo x v:Operand) (t:TypeId) (hop:o.op=Op.mapUpdate t mo x v) (k e:TypeId) (ht:P.underlying t=some (.map k e)) (hk:P.underlying k=some .string)
 (hm:a.eval mo= .map (some m)) (h:ah f w m l) {s:aa} (hx:a.eval x= .string s) {b:β} (hv:a.eval v=f b)
 (hK:∀w',ah f w' m (bN l s b)->w.grownBy w' (some m)->w'.heap.size=w.heap.size->wpList P ops Q rest (a.put o.dst undef) w'):wpList P ops Q (o::rest) a w:=by
 refine wpList_plain hg fun K' hK'=> ?_
 obtain ⟨w',hrun,h1,h2,h3⟩:=lY ht hk h s b;unfold Oper.wp;simp only [execOp,hop,hm,hx,hv,Sem.run_bind,hrun,Result.andThen,Sem.run_pure,Oper.upon_skip];exact hK' _ _ (hK w' h1 h2 h3)
theorem yY (hg:o.guard=none) (mo x:Operand) (t k2:TypeId) (hop:o.op=Op.call {callee:=Callee.builtin Builtin.delete,args:= #[mo,x],argTypes:= #[t,k2]}) (k e:TypeId) (ht:P.underlying t=some (.map k e)) (hk:P.underlying k=some .string)
 (hm:a.eval mo= .map (some m)) (h:ah f w m l) {s:aa} (hx:a.eval x= .string s)
 (hK:∀w',ah f w' m (lI l s)->w.grownBy w' (some m)->w'.heap.size=w.heap.size->wpList P ops Q rest (a.put o.dst (.tuple #[])) w'):wpList P ops Q (o::rest) a w:=by
 refine wpList_plain hg fun K' hK'=> ?_
 obtain ⟨w',hrun,h1,h2,h3⟩:=yX (ty:=o.type) ht hk h s k2;unfold Oper.wp;simp [execOp,hop,resolve,invoke,builtin,hm,hx,hrun,Result.andThen];exact hK' _ _ (hK w' h1 h2 h3)
theorem ez (hg:o.guard=none) (mo:Operand) (t:TypeId) (hop:o.op=Op.call {callee:=Callee.builtin Builtin.len,args:= #[mo],argTypes:= #[t]}) (k e:TypeId) (ht:P.underlying t=some (.map k e))
 (hm:a.eval mo= .map (some m)) (h:ah f w m l) (hK:wpList P ops Q rest (a.put o.dst (.int .i64 l.length)) w):wpList P ops Q (o::rest) a w:=by
 refine wpList_plain hg fun K' hK'=> ?_
 unfold Oper.wp;simp [execOp,hop,resolve,invoke,builtin,hm,run_len_map (ty:=o.type) ht h,Result.andThen];exact hK' _ _ hK
theorem bp (hg:o.guard=none) (mo:Operand) (t:TypeId) (hop:o.op=Op.range t mo) (k e:TypeId) (ht:P.underlying t=some (.map k e)) (hm:a.eval mo= .map (some m)) (h:ah f w m l)
 (hK:∀w',aL f w' m w.heap.size l l->Below w.heap.size w w'->w'.heap.size=w.heap.size+1->wpList P ops Q rest (a.put o.dst (.pointer (some ⟨w.heap.size,0,none⟩))) w'):wpList P ops Q (o::rest) a w:=by
 refine wpList_plain hg fun K' hK'=> ?_
 obtain ⟨w',hrun,h1,h2,h3⟩:=Ca ht h;unfold Oper.wp;simp [execOp,hop,hm,hrun,Result.andThen];exact hK' _ _ (hK w' h1 h2 h3)
theorem ay {r:Nat} {left:List (aa × β)} (hg:o.guard=none) (it:Operand) (hop:o.op=Op.next it false) (hit:a.eval it= .pointer (some ⟨r,0,none⟩)) (h:aL f w m r l left)
 (hDone:left= []->wpList P ops Q rest (a.put o.dst (.tuple #[.bool false])) w)
 (hMore:∀s b left' w',(s,b)∈left->ai l s=some b->aL f w' m r l left'->(∀p,p∈left↔p=(s,b)\/p∈left')->left'.length+1=left.length->s∉af left'->w.grownBy w' (some r)->w'.heap.size=w.heap.size->
  (Instr.entry (.pointer (some ⟨r,0,none⟩))).run P w'= .ok (.tuple #[.string s,f b]) w'->wpList P ops Q rest (a.put o.dst (.tuple #[.bool true, .string s,f b])) w'):wpList P ops Q (o::rest) a w:=by
 refine wpList_plain hg fun K' hK'=> ?_
 unfold Oper.wp;rcases DG (P:=P) h o.type with ⟨h0,hrun⟩|⟨s,b,left',w',h1,h2,hrun,h3,h4,h5,h6,h7,h8,h9⟩
 · simp [execOp,hop,hit,hrun,Result.andThen];exact hK' _ _ (hDone h0)
 simp [execOp,hop,hit,hrun,Result.andThen];exact hK' _ _ (hMore s b left' w' h1 h2 h3 h4 h5 h6 h7 h8 h9)
theorem aT (hg:o.guard=none) (r:Operand) (name:String) (xs:Array Operand) (Pb:Array TypeId) (hop:o.op= .call {callee:= .invoke r name,args:=xs,argTypes:=Pb})
 (T:TypeId) (v:Value) (Hc:FuncId) (Ll:Value) (fn:Func) (hr:a.eval r= .iface T v) (hm:∀w,(method (P.types.size+Made.depth) T v name).run P w= .ok (Hc,Ll) w)
 (hf:P.funcs[Hc]?=some fn) (hb:fn.body.isNone=false) (hn:(fn.name== "runtime.NumGoroutine")=false) {args:Array Value} (hargs:xs.map a.eval=args) (R:Ending->World->Prop)
 (hc:Calls P Hc (#[Ll]++args) w R) (hK:∀e w',R e w'->∃v,e= .returned v/\wpList P ops Q rest (a.put o.dst v) w'):wpList P ops Q (o::rest) a w:=by
 refine wpList_plain hg fun K' hK'=> ?_
 subst hargs;unfold Oper.wp
 have hcall:(invoke (.fn (.method name) #[]) (#[.iface T v]++xs.map a.eval)).run P w= .ok (.enter Hc (#[Ll]++xs.map a.eval)) w:=by
  have h0:(#[Value.iface T v]++xs.map a.eval)[0]?=some (.iface T v):=by rw [Array.getElem?_append_left (by simp)];rfl
  have h1:(#[Value.iface T v]++xs.map a.eval).extract 1 (#[Value.iface T v]++xs.map a.eval).size=xs.map a.eval:=by
   apply Array.ext';simp [List.take_of_length_le]
  simp only [invoke,h0,h1,callMethod,Sem.run_bind,Sem.run,program,Result.andThen,hm,callFunc,hf,hn,hb,Bool.false_eq_true,if_false];rfl
 have hres:(resolve a.eval {callee:= .invoke r name,args:=xs,argTypes:=Pb} o.type).run P w= .ok {target:= .fn (.method name) #[],args:= #[.iface T v]++xs.map a.eval} w:=by
  simp only [resolve,hr];rfl
 simp only [execOp,hop,Sem.run_bind,hres,Result.andThen,hcall,Oper.upon_enter]
 exact hc.mono fun e w' hR=>by
  obtain ⟨v',rfl,hk⟩:=hK e w' hR;exact hK' _ _ hk
end
end Go.Proofs.YtjenhelmpcajfaaGreatDoor
