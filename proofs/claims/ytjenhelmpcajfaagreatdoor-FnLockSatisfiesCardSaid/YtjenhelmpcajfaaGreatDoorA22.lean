/- sorted keys of a map -/
import Derived.Test.YtjenhelmpcajfaaGreatDoorA02
import Derived.BigRegion
import Derived.BigGuard
import Derived.Shelf.Sort.Plain
import Derived.Shelf.Slices.In.SortNone2
import Derived.Test.YtjenhelmpcajfaaGreatDoorProg
import Derived.Sort.OwnSorted
set_option linter.all false
set_option maxRecDepth 20000
set_option maxHeartbeats 4000000
namespace Go.Proofs.YtjenhelmpcajfaaGreatDoor
open Go.RowKit
theorem nz:∀(x y:List UInt8),Op.bytesLess x y=decide (x<y)
 | [], []=>by simp [Op.bytesLess]
 | [],_::_=>by simp [Op.bytesLess]
 | _::_, []=>by simp [Op.bytesLess]
 | a::x,b::y=>by
   simp only [Op.bytesLess,nz x y,List.cons_lt_cons_iff];by_cases h:a<b
   · simp [h]
   by_cases h2:a=b
   · simp [h,h2]
   simp [h,h2]
theorem lB (a b:aa):qD a b=true↔a.data.toList<b.data.toList:=by
 unfold qD;rw [nz,ByteArray.toList_eq,ByteArray.toList_eq];simp
theorem mz (a:aa):qD a a=false:=by
 rw [Bool.eq_false_iff,ne_eq,lB];exact List.lt_irrefl _
theorem oF {a b c:aa} (h1:qD a b=true) (h2:qD b c=true):qD a c=true:=by
 rw [lB] at*;exact List.lt_trans h1 h2
theorem tE {a b:aa} (h:qD a b=false) (hne:a≠b):qD b a=true:=by
 rw [Bool.eq_false_iff,ne_eq,lB] at h;rw [lB];rw [List.not_lt] at h;by_cases h2:b.data.toList<a.data.toList
 · exact h2
 rw [List.not_lt] at h2;exact absurd (ByteArray.ext (Array.ext' (List.le_antisymm h2 h))) hne
abbrev iC (a b:aa):Prop:=qD a b=true
theorem kR {A:List aa} (h:0<A.length):∃A' y,A=A'++ [y]/\A'.length=A.length - 1:=by
 refine ⟨A.dropLast,A.getLast (by intro e;simp [e] at h),(List.dropLast_concat_getLast _).symm,by simp⟩
theorem lD {l A B C:List aa} {x:aa} (hp:(A++x::(B++C)).Perm l) (hnd:l.Nodup) (hs:(A++B).Pairwise iC) (hb:∀b∈B,iC x b) (hx:∀A' y,A=A'++ [y]->qD x y=false):
 ((A++x::(B++C)).take (A.length+B.length+1)).Pairwise iC:=by
 have ht:(A++x::(B++C)).take (A.length+B.length+1)=A++x::B:=by
  rw [List.take_append,List.take_of_length_le (by omega),show A.length+B.length+1 - A.length=B.length+1 by omega,List.take_succ_cons,List.take_append,List.take_of_length_le (Nat.le_refl _)];simp
 rw [ht];have hs':=List.pairwise_append.1 hs;refine List.pairwise_append.2 ⟨hs'.1,List.Pairwise.cons hb hs'.2.1,fun a ha b hb'=> ?_⟩;rcases List.mem_cons.1 hb' with rfl|hb'
 · have hA:0<A.length:=List.length_pos_of_mem ha;obtain ⟨A',y,rfl,_⟩:=kR hA;have hnx:=hx A' y rfl;have hnd':((A'++ [y])++b::(B++C)).Nodup:=hp.nodup_iff.2 hnd
   have hne:b≠y:=by
    rw [List.nodup_append] at hnd';exact fun e=>hnd'.2.2 y (by simp) b (by simp) e.symm
   have hyx:iC y b:=tE hnx hne;rcases List.mem_append.1 ha with h1|h1
   · exact oF ((List.pairwise_append.1 hs'.1).2.2 a h1 y (by simp)) hyx
   simp at h1;subst h1;exact hyx
 exact hs'.2.2 a ha b hb'
theorem nA {l k:List aa} (hl:l.Pairwise iC) (hk:k.Pairwise iC) (h:∀s,s∈l↔s∈k):l=k:=by
 have hn:∀{l:List aa},l.Pairwise iC->l.Nodup:=fun h=>h.imp fun h e=>by subst e;rw [iC,mz] at h;cases h
 have hp:l.Perm k:=(List.perm_ext_iff_of_nodup (hn hl) (hn hk)).2 h;exact hp.eq_of_pairwise (fun a b _ _ h1 h2=>by have:=oF h1 h2;rw [mz] at this;cases this) hl hk
abbrev eW (base:Nat) (e:TypeId) (w:World) (g cap:Nat) (l:List aa):Prop:=w.ownsRow base e 1 (.slice (some ⟨g,0,none⟩) l.length cap) l.length (l.map Value.string)
theorem aW {base:Nat} {e:TypeId} {F:Nat->Prop} {w:World} {v:Value} {l:List aa} (h:Own aD base e F w v l):w.ownsRow base e 1 v l.length (l.map Value.string):=by
 obtain ⟨cs,h1,h2,h3⟩:=h
 have:cs=l.map Value.string:=by
  have hlen:=h1.1;apply List.ext_getElem?;intro j;rw [List.getElem?_map]
  cases hj:l[j]? with
  | none=>
    rw [List.getElem?_eq_none_iff] at hj;rw [List.getElem?_eq_none (by rw [hlen];simp only [aD];omega)]
    rfl
  | some x=>
    obtain ⟨c,hc,he⟩:=h3 j x hj;have hc':c= [.string x]:=hc;have h5:=congrArg (fun z=>z[0]?) he;simp only [aD,Nat.mul_one,List.getElem?_take,List.getElem?_drop,Nat.add_zero] at h5;rw [if_pos (by omega),hc'] at h5;exact h5
 rw [this] at h1;exact h1
theorem cV {base:Nat} {e:TypeId} {F:Nat->Prop} {w:World} {v:Value} {l:List aa} (h:w.ownsRow base e 1 v l.length (l.map Value.string)) (hF:∀k,v.ownBlock=some k->F k):Own aD base e F w v l:=by
 refine ⟨_,h,hF,fun i x hx=>⟨[.string x],rfl, ?_⟩⟩;simp only [aD,Nat.mul_one];have hi:=(List.getElem?_eq_some_iff.1 hx).1;rw [List.drop_eq_getElem_cons (by simpa using hi)];simp only [List.take_succ_cons,List.take_zero,List.getElem_map];rw [(List.getElem?_eq_some_iff.1 hx).2]
theorem eW.at_ {base:Nat} {e:TypeId} {w:World} {g cap:Nat} {l:List aa} (h:eW base e w g cap l) {i:Nat} {x:aa} (hx:l[i]?=some x):w.cell? ⟨g,i,none⟩=some (.string x):=by
 have hi:i<l.length:=(List.getElem?_eq_some_iff.1 hx).1;rw [World.ownsRow.cellAt h i (by omega),List.getElem?_map,hx];rfl
theorem eW.swap {base:Nat} {e:TypeId} {w:World} {g cap n:Nat} {A B:List aa} {x y:aa} (h:eW base e w g cap (A++y::x::B)) (hn:A.length+1=n):
 eW base e ((w.setCell ⟨g,n,none⟩ (.string y)).setCell ⟨g,n - 1,none⟩ (.string x)) g cap (A++x::y::B)/\w.grownBy ((w.setCell ⟨g,n,none⟩ (.string y)).setCell ⟨g,n - 1,none⟩ (.string x)) (some g):=by
 have hlen:(A++y::x::B).length=(A++x::y::B).length:=by simp
 have s1:=World.ownsRow.stored h n (.string y);have s2:=s1.1.stored (n - 1) (.string x);refine ⟨?_, ?_⟩
 · have he:(A++x::y::B).map Value.string=(((A++y::x::B).map Value.string).set n (.string y)).set (n - 1) (.string x):=by
    simp only [List.map_append,List.map_cons];rw [List.set_append_right _ _ (by simp;omega),List.set_append_right _ _ (by simp;omega)];have e1:n - (List.map Value.string A).length=1:=by simp;omega
    have e2:n - 1 - (List.map Value.string A).length=0:=by simp;omega
    rw [e1,e2];rfl
   unfold eW;rw [he,<-hlen];exact s2.1
 refine ⟨rfl,rfl,rfl,by simp,fun k hk hne=> ?_⟩;rw [s2.2.block k (by simpa using hk) hne,s1.2.block k (by simpa using hk) hne]
theorem bh {base:Nat} {e:TypeId} {F:Nat->Prop} {w:World} {v:Value} {l:List aa} (h:Own aD base e F w v l) {k:Nat} (hk:v.ownBlock=some k):F k:=h.choose_spec.2.1 k hk
theorem aX {base:Nat} {e:TypeId} {F F':Nat->Prop} {w w':World} {v:Value} {l:List aa} (h:Own aD base e F w v l) (hk:∀k,v.ownBlock=some k->w'.heap[k]?=w.heap[k]?) (hF:∀b,F b->F' b):Own aD base e F' w' v l:=
 cV (bD (aW h) hk) fun _ hk=>hF _ (bh h hk)
theorem jt {w w':World} {r:Option Nat} (h:w.grownBy w' r) (q:Nat):w.grownBy (w'.drewN q) r:=⟨h.os,h.tape,h.output,h.size,h.block⟩
theorem xO {w w' w'':World} {r:Option Nat} (h:w.grownBy w' r) (k:w'.grownBy w'' r):w.grownBy w'' r:=
 ⟨k.os.trans h.os,k.tape.trans h.tape,k.output.trans h.output,Nat.le_trans h.size k.size,fun b hb hne=>(k.block b (Nat.lt_of_lt_of_le hb h.size) hne).trans (h.block b hb hne)⟩
end Go.Proofs.YtjenhelmpcajfaaGreatDoor
namespace Go.Proofs
section
open Go.Shelf
def Tryz.lays192_ren:Go.Shelf.Ren:=⟨fun|192=>72|190=>112|125=>140|258=>139|128=>161|129=>162|302=>152|303=>153|304=>154|305=>155|306=>156|307=>157|308=>158|309=>159|310=>160|333=>169|329=>170|330=>171|334=>172|335=>173|336=>174|344=>181|n=>n,fun|31=>22|0=>0|9=>9|3=>3|46=>306|51=>79|53=>262|4=>4|183=>315|182=>314|131=>319|5=>5|218=>334|222=>338|228=>350|229=>351|n=>n,fun|n=>n⟩
theorem Tryz.lays192:Go.Proofs.Lays.n192 Tryz.prog Tryz.lays192_ren:={
 mixed:=by kernel_rfl
 f125:=Tryz.func140.trans (congrArg some (by kernel_rfl))
 f128:=Tryz.func161.trans (congrArg some (by kernel_rfl))
 f129:=Tryz.func162.trans (congrArg some (by kernel_rfl))
 f190:=Tryz.func112.trans (congrArg some (by kernel_rfl))
 f192:=Tryz.func72.trans (congrArg some (by kernel_rfl))
 f258:=Tryz.func139.trans (congrArg some (by kernel_rfl))
 f302:=Tryz.func152.trans (congrArg some (by kernel_rfl))
 f303:=Tryz.func153.trans (congrArg some (by kernel_rfl))
 f304:=Tryz.func154.trans (congrArg some (by kernel_rfl))
 f305:=Tryz.func155.trans (congrArg some (by kernel_rfl))
 f306:=Tryz.func156.trans (congrArg some (by kernel_rfl))
 f307:=Tryz.func157.trans (congrArg some (by kernel_rfl))
 f308:=Tryz.func158.trans (congrArg some (by kernel_rfl))
 f309:=Tryz.func159.trans (congrArg some (by kernel_rfl))
 f310:=Tryz.func160.trans (congrArg some (by kernel_rfl))
 f329:=Tryz.func170.trans (congrArg some (by kernel_rfl))
 f330:=Tryz.func171.trans (congrArg some (by kernel_rfl))
 f333:=Tryz.func169.trans (congrArg some (by kernel_rfl))
 f334:=Tryz.func172.trans (congrArg some (by kernel_rfl))
 f335:=Tryz.func173.trans (congrArg some (by kernel_rfl))
 f336:=Tryz.func174.trans (congrArg some (by kernel_rfl))
 f344:=Tryz.func181.trans (congrArg some (by kernel_rfl))
 t0:=Tryz.underlying0
 a0:=Tryz.isAgg0
 z0:=Tryz.sizeOf0
 v0:=Tryz.zeroValue0
 t3:=Tryz.underlying3
 a3:=Tryz.isAgg3
 z3:=Tryz.sizeOf3
 v3:=Tryz.zeroValue3
 t4:=Tryz.underlying4
 a4:=Tryz.isAgg4
 z4:=Tryz.sizeOf4
 v4:=Tryz.zeroValue4
 t5:=Tryz.underlying5
 a5:=Tryz.isAgg5
 z5:=Tryz.sizeOf5
 v5:=Tryz.zeroValue5
 t9:=Tryz.underlying9
 a9:=Tryz.isAgg9
 z9:=Tryz.sizeOf9
 v9:=Tryz.zeroValue9
 t31:=Tryz.underlying22
 a31:=Tryz.isAgg22
 z31:=Tryz.sizeOf22
 v31:=Tryz.zeroValue22
 t46:=Tryz.underlying306
 a46:=Tryz.isAgg306
 z46:=Tryz.sizeOf306
 v46:=Tryz.zeroValue306
 t51:=Tryz.underlying79
 a51:=Tryz.isAgg79
 z51:=Tryz.sizeOf79
 v51:=Tryz.zeroValue79
 t53:=Tryz.underlying262
 a53:=Tryz.isAgg262
 z53:=Tryz.sizeOf262
 v53:=Tryz.zeroValue262
 t131:=Tryz.underlying319
 a131:=Tryz.isAgg319
 z131:=Tryz.sizeOf319
 v131:=Tryz.zeroValue319
 t182:=Tryz.underlying314
 a182:=Tryz.isAgg314
 z182:=Tryz.sizeOf314
 v182:=Tryz.zeroValue314
 t183:=Tryz.underlying315
 a183:=Tryz.isAgg315
 z183:=Tryz.sizeOf315
 v183:=Tryz.zeroValue315
 t218:=Tryz.underlying334
 a218:=Tryz.isAgg334
 z218:=Tryz.sizeOf334
 v218:=Tryz.zeroValue334
 t222:=Tryz.underlying338
 a222:=Tryz.isAgg338
 z222:=Tryz.sizeOf338
 v222:=Tryz.zeroValue338
 t228:=Tryz.underlying350
 a228:=Tryz.isAgg350
 z228:=Tryz.sizeOf350
 v228:=Tryz.zeroValue350
 t229:=Tryz.underlying351
 a229:=Tryz.isAgg351
 z229:=Tryz.sizeOf351
 v229:=Tryz.zeroValue351}
open Go.Sort Go.RowKit in
theorem Tryz.sort_Strings (blk off cap:Nat) (ss:List (List UInt8)) (w:World) (hH:Holds encStr w blk off ss.toArray) (hblk:blk<w.heap.size) (hsz:ss.length<4611686018427387904):
 Calls Tryz.prog 72 #[.slice (some ⟨blk,off,none⟩) ss.length cap] w fun e w'=>
  e= .returned (.tuple #[])/\∃n os,w'=grow (putRow encStr (Sort.ahead w n) blk off (ss.mergeSort fun x y=>decide (x<=y)).toArray) os:=Any.sort_Strings Tryz.lays192 blk off cap ss w hH hblk hsz
open Go.RowKit Go.Sort in
theorem Tryz.sort_Strings_none (p:Option Addr) (cap:Nat) (w:World):
 Calls Tryz.prog 72 #[.slice p 0 cap] w fun e w'=>e= .returned (.tuple #[])/\w'=w:=Any.sort_Strings_none Tryz.lays192 p cap w
end
end Go.Proofs
namespace Go.Proofs.YtjenhelmpcajfaaGreatDoor
open Go.RowKit
section
open Go.Sort
def Kt (l:List UInt8):aa:=⟨l.toArray⟩
theorem xP (x:aa):Kt x.data.toList=x:=by cases x;rfl
theorem WL (l:List UInt8):encStr l= .string (Kt l):=rfl
theorem f72 {base:Nat} {F:Nat->Prop} (v:Value) (xs:List aa) (w:World) (hO:Own aD base 9 F w v xs) (hl:xs.length<=1000000):
 Calls Tryz.prog 72 #[v] w fun e w'=>e= .returned (.tuple #[])/\∃xs',xs'.Perm xs/\xs'.Pairwise (fun a b=>qD b a=false)/\Own aD base 9 F w' v xs'/\w.grownBy w' v.ownBlock:=by
 have hrow:=aW hO;rcases Nat.eq_zero_or_pos xs.length with h0|h0
 · obtain ⟨A,cap,rfl⟩:=hO.form;rw [h0];refine (Tryz.sort_Strings_none A cap w).mono ?_;rintro e w' ⟨rfl,rfl⟩;have hx:xs= []:=List.eq_nil_of_length_eq_zero h0;subst hx;exact ⟨rfl, [],List.Perm.refl _,List.Pairwise.nil,hO,⟨rfl,rfl,rfl,Nat.le_refl _,fun _ _ _=>rfl⟩⟩
 rcases hrow.2 with ⟨_,h1⟩|⟨g,cap,cur,rfl,hb,hg,hnc,hcm,hcs,htake⟩
 · omega
 have hss:xs.map Value.string=(xs.map fun x=>x.data.toList).map encStr:=by
  rw [List.map_map];exact List.map_congr_left fun x _=>by show _=Value.string (Kt x.data.toList);rw [xP]
 have hH:Holds encStr w g 0 (xs.map fun x=>x.data.toList).toArray:=holds_of_block hg (by rw [List.length_map,<-hss,<-htake,Nat.mul_one]);have hlen:(xs.map fun x=>x.data.toList).length=xs.length:=List.length_map _;have hc:=Tryz.sort_Strings g 0 cap (xs.map fun x=>x.data.toList) w hH (Array.getElem?_eq_some_iff.1 hg).1 (by omega);rw [hlen] at hc;refine hc.mono ?_;rintro e w' ⟨rfl,n,os,rfl⟩;generalize hts:(xs.map fun x=>x.data.toList).mergeSort (fun x y=>decide (x<=y))=ts;have hperm:ts.Perm (xs.map fun x=>x.data.toList):=by rw [<-hts];exact List.mergeSort_perm _ _
 have IV:ts.Pairwise (fun a b=>a<=b):=by
  have:=List.pairwise_mergeSort (le:=fun (x y:List UInt8)=>decide (x<=y)) (fun a b c h1 h2=>by simp only [decide_eq_true_eq] at*;exact List.le_trans h1 h2) (fun a b=>by simp only [Bool.or_eq_true,decide_eq_true_eq];exact List.le_total a b) (xs.map fun x=>x.data.toList);rw [hts] at this;exact this.imp fun h=>by simpa using h
 have htl:ts.length=(xs.map fun x=>x.data.toList).length:=hperm.length_eq
 have hmx:(ts.map Kt).Perm xs:=by
  have:=hperm.map Kt;rw [List.map_map] at this
  have he:xs.map (Kt ∘ fun x=>x.data.toList)=xs:=by
   exact (List.map_congr_left (g:=id) (fun x _=>xP x)).trans (List.map_id _)
  rw [he] at this;exact this
 refine ⟨rfl,ts.map Kt,hmx, ?_, ?_,grownBy_sorted _⟩
 · rw [List.pairwise_map];refine IV.imp fun {a b} h=> ?_
   rw [Bool.eq_false_iff,ne_eq,lB];exact List.not_lt.2 (by simpa [Kt] using h)
 refine cV ?_ (fun k hk=>by simp [Value.ownBlock] at hk;subst hk;exact bh hO rfl);have h3:=ownsRow_sorted (os:=os) (n:=n) (w:=w) htl hb hg (by rw [hlen];exact hnc) hcm hcs;rw [hlen] at h3;rw [List.map_map,List.length_map,htl,hlen];exact h3
end
open Go.Proofs.Tryz
def nB (r p:aa):Bool:= !(aw r).1.toList.isEmpty && !p.toList.isEmpty && (p.toList==(aw r).1.toList||((aw r).2 && begins p (aw r).1))
def bV (ig:List aa) (p:aa):Bool:=ig.any fun r=>nB r p
theorem po (s:aa):(aw s).1.size<=s.size:=by
 unfold aw;split
 · split
   · simp [ByteArray.size_extract]
   exact Nat.le_refl _
 exact Nat.le_refl _
theorem f120 {F:Nat->Prop} (v:Value) (xs:List aa) (p:aa) (w:World) (hR:bK F w v xs) (hs:∀x∈xs,x.size<=1000000) (hp:p.size<=1000000):
 Calls Tryz.prog 120 #[v, .string p] w fun e w'=>(e= .returned (.bool (bV xs p)))/\w'=w:=by
 obtain ⟨A,cap,rfl⟩:=hR.form;obtain ⟨-,hb1,hb2⟩:=hR.bound;have HS:=Y0 hs;have HP:=Y0 hp;clear hs hp;go_enter func120,ntmps120;go_wp2;go_loop [11] (fun i=>∃k:Nat,i= .int .i64 k/\k<=xs.length/\xs.any (fun r=>nB r p)=(xs.drop k).any (fun r=>nB r p)) (fun i=>xs.length - (intOf i).toNat)
 case atStart=>exact ⟨0,rfl,by omega,rfl⟩
 obtain ⟨k,rfl,hk,hi⟩:=hrel;have H:=Y0 hi;clear hi;by_cases hlt:k<xs.length
 · obtain ⟨g,off,rfl,hF,hg,hc⟩:=hR.at1 hlt;have hst:=Y0 (qC xs (fun r=>nB r p) k hlt);have hsz:Hid (xs[k].size<=1000000):=Y0 (HS.out xs[k] (List.getElem_mem _));have hws:Hid ((aw xs[k]).1.size<=1000000):=Y0 (Nat.le_trans (po _) hsz.out);obtain ⟨x,hx⟩:∃x,x=xs[k]:=⟨_,rfl⟩;rw [<-hx] at hc hst hsz hws;clear hx;have hhit:Hid (nB x p=(!(aw x).1.toList.isEmpty && !p.toList.isEmpty && (p.toList==(aw x).1.toList||((aw x).2 && begins p (aw x).1)))):=Y0 rfl;obtain ⟨b,hb⟩:∃b,b=(aw x).1:=⟨_,rfl⟩;obtain ⟨f,hf⟩:∃f,f=(aw x).2:=⟨_,rfl⟩;have HB:=Y0 (show aw x=(b,f) by rw [hb,hf]);rw [<-hb,<-hf] at hhit;rw [<-hb] at hws;clear hb hf;cases vU:b.toList.isEmpty<;>cases hpe:p.toList.isEmpty<;>cases heq:(p.toList==b.toList)<;>cases f<;>cases hbg:begins p b
   all_goals
    have HH:Hid (nB x p=_):=hhit;rw [vU,hpe,heq,hbg] at HH;have HBG:=Y0 hbg;clear hhit hbg;go_wp2_with (first|(go_at_call 52;refine (f52 _ _ (by have:=hsz.out;omega)).mono ?_;rw [HB.out];rintro e w' ⟨rfl,rfl⟩)|(go_at_call 47;refine (f47 _ _ _ (by have:=HP.out;omega) (by have:=hws.out;omega)).mono ?_;rw [HBG.out];rintro e w' ⟨rfl,rfl⟩))
    first
    | (go_round
       case rel=>exact ⟨k+1,by go_num,by omega,by rw [H.out,hst.out,HH.out];rfl⟩
       simp [intOf];omega)
    | (go_ret
       refine ⟨aq ?_,rfl⟩;rw [bV,H.out,hst.out,HH.out];rfl)
 go_wp2;have hk2:k=xs.length:=by omega
 subst hk2;go_ret;refine ⟨aq ?_,rfl⟩;rw [bV,H.out];simp
def KeysOf {β:Type} (l:List (aa × β)) (xs:List aa):Prop:=xs.Pairwise iC/\∀s,s∈xs↔s∈af l
theorem rA:(Tryz.prog.info? 9).map (fun i=>(i.zero,i.size,i.bytes))=some (some (.string ⟨#[]⟩),aD.sz,16):=by kernel_rfl
theorem Fb:(Tryz.prog.info? 110).map (fun i=>(i.zero,i.size,i.bytes))=some (some (.string ⟨#[]⟩),aD.sz,16):=by kernel_rfl
def kf:Value->Nat
 | .slice _ n _=>n
 | _=>0
abbrev Kp (n e:Nat):Prop:=∀{β:Type} (f:β->Value) (mb:Nat) (l:List (aa × β)) (w:World),ah f w mb l->l.length<=1000000->
 Calls Tryz.prog n #[.map (some mb)] w fun o w'=>∃v xs F',o= .returned v/\KeysOf l xs/\Own aD w.heap.size e F' w' v xs/\(∀b,F' b->w.heap.size<=b/\b<w'.heap.size)/\Below w.heap.size w w'
theorem Uj:Kp 69 9/\Kp 128 9/\Kp 136 9/\Kp 137 9:=by
 refine ⟨?_,?_,?_,?_⟩<;>intro β f mb l w h hl<;>have H:=Y0 h<;>clear h<;>first|(go_enter func69,ntmps69;have hU:=Y0 underlying165)|(go_enter func128,ntmps128;have hU:=Y0 underlying91)|(go_enter func136,ntmps136;have hU:=Y0 underlying91)|(go_enter func137,ntmps137;have hU:=Y0 underlying228)
 all_goals
  go_wp2_with (refine bp (o:=⟨some 8,_,_,_,_,_⟩) rfl _ _ rfl _ _ hU.out rfl H.out ?_;intro w1 hI az hs1;go_frame);have IW:Hid (aL f w1 mb w.heap.size l l/\Below w.heap.size w w1):=Y0 ⟨hI,az⟩;clear hI az;go_loopw [3] (fun v wr=>∃(acc:List aa) (left:List (aa × β)) (F:Nat->Prop),Hid (aL f wr mb w.heap.size l left/\Own aD w.heap.size 9 F wr v acc/\(∀b,F b->w.heap.size<b/\b<wr.heap.size)/\Below w.heap.size w wr/\acc.length+left.length=l.length/\acc.Nodup/\(∀s,s∈acc->s∉af left)/\(∀s,(s∈acc\/s∈af left)↔s∈af l))) (fun v _=>l.length - kf v)
  case atStart=>exact ⟨[],l,fun _=>False,Y0 ⟨IW.out.1,Own.nil _ _ _ _ _,by simp,IW.out.2,by simp,by simp,by simp,by simp⟩⟩
  case round=>
   obtain ⟨acc,left,F,hc⟩:=hrel;obtain ⟨A0,c0,rfl⟩:=hc.out.2.1.form;have hws:w.heap.size<=wr.heap.size:=hc.out.2.2.2.1.size
   cases left with
   | cons p eX=>
     have hal:acc.length<1000000:=by have:=hc.out.2.2.2.2.1;simp at this;omega
     go_wp2_with (first
      | (refine ay (o:=⟨some 9,_,_,_,_,_⟩) rfl _ rfl rfl hc.out.1 (by intro h;cases h) ?_;intro s b left' w2 hmem hget eI ba hlen hns hg2 hs2 hent;have bO:=Y7 hmem eI ba hlen hns hg2 hs2;clear hmem hget eI ba hlen hns hg2 hs2;have hw2:w.heap.size<=w2.heap.size:=(by rw [bO.out.2.2.2.2.2.2];exact hws);have ja:=Y0 (aX (w':=w2.alloc (.cells #[.string s] 9)) (F':=F) hc.out.2.1 (fun k hk=>by have h1:=hc.out.2.2.1 k (bh hc.out.2.1 hk);have hs2:=bO.out.2.2.2.2.2.2;rw [Below.heap_alloc _ _ k (by omega)];exact bO.out.2.2.2.2.2.1.block k h1.2 (by intro e;injection e with e;omega)) (fun _ h=>h));have gT:=Y0 (Rd.one (d:=aD) (F:=F) (w:=w2) (e:=9) (x:=s) (cs:= #[.string s]) rfl (by intro b hb;have:=(hc.out.2.2.1 b hb).2;have hs2:=bO.out.2.2.2.2.2.2;omega));go_frame)
      | (at_builtin;refine aH rfl _ _ 22 rfl aD 9 (.string ⟨#[]⟩) 16 underlying22 rA rfl (by decide) rfl rfl ja.out gT.out (by simp [maxLen];omega) (by simp;omega) (by simp;omega) rfl (acc.length+1) (by simp) ?_;intro A2 c2 w3 F2 mI iT bb gD;have zX:=Y4 mI iT bb gD;clear mI iT bb gD;go_frame))
     go_roundw
     case rel=>
      obtain ⟨i1,i2,i3,i4,i5,i6,i7,i8⟩:=hc.out;obtain ⟨j1,j2,j3,j4,j5,j6,hs2⟩:=bO.out;obtain ⟨k1,k2,k3,k4⟩:=zX.out
      have hF2:∀b,F2 b->w.heap.size<b/\b<w3.heap.size:=fun b hb=>by
       refine ⟨?_,k2.lt (fun c hc'=>by have:=(i3 c hc').2;simp;omega) b hb⟩;rcases Nat.lt_or_ge b (w2.alloc (.cells #[.string s] 9)).heap.size with h|h
       · exact (i3 b (k2.old b h hb)).1
       simp at h;omega
      have hmb:=H.out.lt;refine ⟨acc++ [s],left',F2,Y0 ⟨?_,k1,hF2, ?_, ?_, ?_, ?_, ?_⟩⟩
      · refine (j2.pure ((Below.refl _ _).alloc (Nat.le_refl _) (.cells #[.string s] 9))).grown k4 (fun e=> ?_) (fun e=> ?_)
        · have:=(i3 _ (bh i2 e)).1;omega
        have:=(i3 _ (bh i2 e)).1;omega
      · exact (i4.grown j6 (by omega) (fun k e=>by injection e with e;omega)).trans (((Below.refl _ _).alloc (by omega) _).trans k3)
      · simp at i5 j4 ⊢;omega
      · rw [List.nodup_append];refine ⟨i6,by simp,fun a ha b hb e=> ?_⟩;simp at hb;subst hb e;exact i7 a ha (by simp only [af,List.mem_map];exact ⟨(a,_),j1,rfl⟩)
      · intro t ht;rcases List.mem_append.1 ht with ht|ht
        · intro hk;refine i7 t ht ?_;simp only [af,List.mem_map] at hk ⊢;obtain ⟨q,hq,rfl⟩:=hk;exact ⟨q,(j3 q).2 (.inr hq),rfl⟩
        simp at ht;subst ht;exact j5
      intro t;rw [<-i8];simp only [List.mem_append,List.mem_singleton,af,List.mem_map];constructor
      · rintro ((h|rfl)|⟨q,hq,rfl⟩)
        · exact .inl h
        · exact .inr ⟨_,j1,rfl⟩
        exact .inr ⟨q,(j3 q).2 (.inr hq),rfl⟩
      rintro (h|⟨q,hq,rfl⟩)
      · exact .inl (.inl h)
      rcases (j3 q).1 hq with rfl|h
      · exact .inl (.inr rfl)
      exact .inr ⟨q,h,rfl⟩
     have:=hc.out.2.2.2.2.1;simp [kf] at this ⊢;omega
   | nil=>
     go_wp2_with (refine ay (o:=⟨some 9,_,_,_,_,_⟩) rfl _ rfl rfl hc.out.1 ?_ (by intro s b left' w2 hmem;cases hmem);intro _;go_frame);obtain ⟨i1,i2,i3,i4,i5,i6,i7,i8⟩:=hc.out;have hacc:acc.length<=1000000:=by simp at i5;omega
     have hmem:∀s,s∈acc↔s∈af l:=fun s=>by rw [<-i8];simp [af]
     by_cases qR:acc.length<=1
     · have WO:¬(1:Int)<(acc.length:Int):=by omega
       have HM:=Y0 hmem;clear hmem i1 i2 i3 i4 i5 i6 i7 i8;go_wp2;refine wp_loop_rounds 1 ?_;rw [rounds_succ];go_wp2;go_ret;obtain ⟨i1,i2,i3,i4,i5,i6,i7,i8⟩:=hc.out;refine ⟨_,acc,F,rfl,⟨?_,HM.out⟩,i2,fun b hb=>⟨by have:=(i3 b hb).1;omega,(i3 b hb).2⟩,i4⟩
       match acc,qR with
       | [],_=>exact List.Pairwise.nil
       | [a],_=>exact List.pairwise_singleton _ _
     obtain ⟨g,cap',hA,hgb,_⟩:=(aW i2).form (by omega);simp only [Value.slice.injEq,true_and] at hA;obtain ⟨rfl,rfl⟩:=hA;have hrow:Hid (eW w.heap.size 9 wr g c0 acc):=Y0 (aW i2);have HM:=Y0 hmem;have Du:=Y0 i6;obtain ⟨wv,Mn⟩:∃wv,wv=wr:=⟨_,rfl⟩;obtain ⟨n,hn⟩:∃n,acc.length=n:=⟨_,rfl⟩;rw [<-Mn];have QN:=Y0 Mn;have HN:=Y0 hn;clear hmem i1 i2 i3 i4 i5 i6 i7 i8 Mn;rw [hn] at qR hacc ⊢;clear hn;go_wp2;go_loopw [5] (fun i wr2=>∃(i':Nat) (l1:List aa),i= .int .i64 i'/\i'<=n/\Hid (l1.Perm acc/\(l1.take i').Pairwise iC/\eW w.heap.size 9 wr2 g c0 l1/\wv.grownBy wr2 (some g))) (fun i _=>n - (intOf i).toNat)
     case atStart=>
      refine ⟨1,acc,rfl,by omega,Y0 ⟨List.Perm.refl _, ?_,QN.out▸hrow.out,⟨rfl,rfl,rfl,Nat.le_refl _,fun _ _ _=>rfl⟩⟩⟩
      cases acc with
      | nil=>exact List.Pairwise.nil
      | cons a l=>exact List.pairwise_singleton _ _
     obtain ⟨i',l1,rfl,hi2,hc3⟩:=hrel;by_cases hlt:(i':Int)<(n:Int)
     · go_wp2;go_loopw [6] (fun j wr2=>∃(k:Nat) (A B C:List aa) (x:aa),j= .int .i64 k/\k<n/\Hid (A.length=k/\A.length+B.length=i'/\(A++x::(B++C)).Perm acc/\(A++B).Pairwise iC/\(∀b∈B,iC x b)/\eW w.heap.size 9 wr2 g c0 (A++x::(B++C))/\wv.grownBy wr2 (some g))) (fun j _=>(intOf j).toNat)
       case atStart=>
        obtain ⟨p1,p2,p3,p4⟩:=hc3.out;have hlen:l1.length=n:=p1.length_eq.trans HN.out;have hi':i'<l1.length:=by omega
        have hsp:l1.take i'++l1[i']::([]++l1.drop (i'+1))=l1:=by
         rw [List.nil_append,<-List.drop_eq_getElem_cons hi',List.take_append_drop]
        refine ⟨i',l1.take i', [],l1.drop (i'+1),l1[i'],rfl,by omega,Y0 ⟨by simp<;>omega,by simp<;>omega,by rw [hsp];exact p1,by simpa using p2,by simp,by rw [hsp];exact p3,p4⟩⟩
       obtain ⟨k,A,B,C,x,rfl,hkl,vF⟩:=hrel;by_cases hz:0<k
       · have hz':(0:Int)<(k:Int):=by omega
         obtain ⟨A',y,hA',hk'⟩:∃A' y,A=A'++ [y]/\A'.length=A.length - 1:=kR (by rw [vF.out.1];exact hz);have HA:=Y0 hA';have HK:=Y0 hk';clear hA' hk';have hlist:Hid (A++x::(B++C)=A'++y::x::(B++C)):=Y0 (by rw [HA.out];simp);obtain ⟨k',rfl⟩:∃k',k=k'+1:=⟨k - 1,by omega⟩;have IX:A'.length=k':=by rw [HK.out,vF.out.1];rfl
         have IY:(A++x::(B++C)).length=n:=by rw [vF.out.2.2.1.length_eq];exact HN.out
         have hS:=vF.out.2.2.2.2.2.1;have c1:wr.cell? ⟨g,k'+1,none⟩=some (.string x):=hS.at_ (by rw [<-vF.out.1,List.getElem?_append_right (Nat.le_refl _)];simp);have c2:wr.cell? ⟨g,k',none⟩=some (.string y):=hS.at_ (by rw [hlist.out,<-IX,List.getElem?_append_right (Nat.le_refl _)];simp);have fz1:=World.ownsRow.frozenAt hS (k'+1);have fz2:=World.ownsRow.frozenAt hS k';have Mo:=Y0 IX;have HLN:=Y0 IY;have hk1:((k':Int)+1)<(n:Int):=by omega
         clear hS IX IY;cases hd:Op.bytesLess x.toList y.toList
         · have HD:Hid (qD x y=false):=Y0 hd;go_wp2;go_quiet (fail);go_wp2;obtain ⟨q1,q2,q3,q4,q5,q6,q7⟩:=vF.out;refine ⟨⟨i'+1,A++x::(B++C),by go_num,by omega,Y0 ⟨q3, ?_,by exact q6,jt q7 _⟩⟩,by simp [intOf]<;>omega⟩;rw [<-q2];refine lD q3 Du.out q4 q5 fun QD Kh he=> ?_
           have hy:Kh=y:=by
            have h1:=HA.out.symm.trans he;have:=congrArg List.getLast? h1;simpa using this.symm
           subst hy;exact HD.out
         have HD:Hid (qD x y=true):=Y0 hd;go_wp2;go_quiet (fail);go_wp2
         go_region
         go_wp2;go_roundw
         case rel=>
          obtain ⟨q1,q2,q3,q4,q5,q6,q7⟩:=vF.out;rw [hlist.out] at q6 q3;have hsw:=eW.swap (base:=w.heap.size) (e:=9) (w:=wr.drewN nq) (n:=k'+1) (by exact q6) (by rw [Mo.out]);refine ⟨k',A',y::B,C,x,by go_num,by omega,Y0 ⟨Mo.out,by have:=Mo.out;simp;omega, ?_, ?_, ?_,by exact hsw.1,xO (jt q7 nq) ⟨hsw.2.os,hsw.2.tape,hsw.2.output,hsw.2.size,hsw.2.block⟩⟩⟩
          · exact (List.Perm.append_left _ (List.Perm.swap _ _ _)).trans q3
          · rw [HA.out] at q4;simpa using q4
          intro b hb;rcases List.mem_cons.1 hb with rfl|hb
          · exact HD.out
          exact q5 b hb
         simp [intOf]<;>omega
       have hz':¬(0:Int)<(k:Int):=by omega
       go_wp2;go_quiet (fail);go_wp2;obtain ⟨q1,q2,q3,q4,q5,q6,q7⟩:=vF.out;refine ⟨⟨i'+1,A++x::(B++C),by go_num,by omega,Y0 ⟨q3, ?_,by exact q6,jt q7 _⟩⟩,by simp [intOf]<;>omega⟩;rw [<-q2];refine lD q3 Du.out q4 q5 fun QD Kh he=> ?_
       rw [he] at q1;simp at q1;omega
     go_wp2;go_ret;obtain ⟨p1,p2,p3,p4⟩:=hc3.out;obtain ⟨i1,i2,i3,i4,i5,i6,i7,i8⟩:=hc.out;have hlen:l1.length=n:=p1.length_eq.trans HN.out;rw [List.take_of_length_le (by omega)] at p2;have Ku:=bh i2 (k:=g) rfl;have CE:=i3 g Ku;rw [QN.out] at p4;refine ⟨_,rfl,l1,⟨p2,fun s=>by rw [<-HM.out,p1.mem_iff]⟩,F,cV (by rw [hlen];have:=p3;unfold eW at this;rwa [hlen] at this) (fun k hk=>by simp [Value.ownBlock] at hk;subst hk;exact Ku),fun b hb=>⟨by have:=(i3 b hb).1;omega,Nat.lt_of_lt_of_le (i3 b hb).2 p4.size⟩,i4.grown p4 i4.size (fun k e=>by injection e with e;omega)⟩
theorem fKb:Kp 41 110/\Kp 58 110:=by
 refine ⟨?_,?_⟩<;>intro β f mb l w h hl<;>have H:=Y0 h<;>clear h<;>first|(go_enter func41,ntmps41;have hU:=Y0 underlying92)|(go_enter func58,ntmps58;have hU:=Y0 underlying134)
 all_goals
  go_wp2_with (refine bp (o:=⟨some 8,_,_,_,_,_⟩) rfl _ _ rfl _ _ hU.out rfl H.out ?_;intro w1 hI az hs1;go_frame);have IW:Hid (aL f w1 mb w.heap.size l l/\Below w.heap.size w w1):=Y0 ⟨hI,az⟩;clear hI az;go_loopw [3] (fun v wr=>∃(acc:List aa) (left:List (aa × β)) (F:Nat->Prop),Hid (aL f wr mb w.heap.size l left/\Own aD w.heap.size 110 F wr v acc/\(∀b,F b->w.heap.size<b/\b<wr.heap.size)/\Below w.heap.size w wr/\acc.length+left.length=l.length/\acc.Nodup/\(∀s,s∈acc->s∉af left)/\(∀s,(s∈acc\/s∈af left)↔s∈af l))) (fun v _=>l.length - kf v)
  case atStart=>exact ⟨[],l,fun _=>False,Y0 ⟨IW.out.1,Own.nil _ _ _ _ _,by simp,IW.out.2,by simp,by simp,by simp,by simp⟩⟩
  case round=>
   obtain ⟨acc,left,F,hc⟩:=hrel;obtain ⟨A0,c0,rfl⟩:=hc.out.2.1.form;have hws:w.heap.size<=wr.heap.size:=hc.out.2.2.2.1.size
   cases left with
   | cons p eX=>
     have hal:acc.length<1000000:=by have:=hc.out.2.2.2.2.1;simp at this;omega
     go_wp2_with (first
      | (refine ay (o:=⟨some 9,_,_,_,_,_⟩) rfl _ rfl rfl hc.out.1 (by intro h;cases h) ?_;intro s b left' w2 hmem hget eI ba hlen hns hg2 hs2 hent;have bO:=Y7 hmem eI ba hlen hns hg2 hs2;clear hmem hget eI ba hlen hns hg2 hs2;have hw2:w.heap.size<=w2.heap.size:=(by rw [bO.out.2.2.2.2.2.2];exact hws);have ja:=Y0 (aX (w':=w2.alloc (.cells #[.string s] 110)) (F':=F) hc.out.2.1 (fun k hk=>by have h1:=hc.out.2.2.1 k (bh hc.out.2.1 hk);have hs2:=bO.out.2.2.2.2.2.2;rw [Below.heap_alloc _ _ k (by omega)];exact bO.out.2.2.2.2.2.1.block k h1.2 (by intro e;injection e with e;omega)) (fun _ h=>h));have gT:=Y0 (Rd.one (d:=aD) (F:=F) (w:=w2) (e:=110) (x:=s) (cs:= #[.string s]) rfl (by intro b hb;have:=(hc.out.2.2.1 b hb).2;have hs2:=bO.out.2.2.2.2.2.2;omega));go_frame)
      | (at_builtin;refine aH rfl _ _ 108 rfl aD 110 (.string ⟨#[]⟩) 16 underlying108 Fb rfl (by decide) rfl rfl ja.out gT.out (by simp [maxLen];omega) (by simp;omega) (by simp;omega) rfl (acc.length+1) (by simp) ?_;intro A2 c2 w3 F2 mI iT bb gD;have zX:=Y4 mI iT bb gD;clear mI iT bb gD;go_frame))
     go_roundw
     case rel=>
      obtain ⟨i1,i2,i3,i4,i5,i6,i7,i8⟩:=hc.out;obtain ⟨j1,j2,j3,j4,j5,j6,hs2⟩:=bO.out;obtain ⟨k1,k2,k3,k4⟩:=zX.out
      have hF2:∀b,F2 b->w.heap.size<b/\b<w3.heap.size:=fun b hb=>by
       refine ⟨?_,k2.lt (fun c hc'=>by have:=(i3 c hc').2;simp;omega) b hb⟩;rcases Nat.lt_or_ge b (w2.alloc (.cells #[.string s] 110)).heap.size with h|h
       · exact (i3 b (k2.old b h hb)).1
       simp at h;omega
      have hmb:=H.out.lt;refine ⟨acc++ [s],left',F2,Y0 ⟨?_,k1,hF2, ?_, ?_, ?_, ?_, ?_⟩⟩
      · refine (j2.pure ((Below.refl _ _).alloc (Nat.le_refl _) (.cells #[.string s] 110))).grown k4 (fun e=> ?_) (fun e=> ?_)
        · have:=(i3 _ (bh i2 e)).1;omega
        have:=(i3 _ (bh i2 e)).1;omega
      · exact (i4.grown j6 (by omega) (fun k e=>by injection e with e;omega)).trans (((Below.refl _ _).alloc (by omega) _).trans k3)
      · simp at i5 j4 ⊢;omega
      · rw [List.nodup_append];refine ⟨i6,by simp,fun a ha b hb e=> ?_⟩;simp at hb;subst hb e;exact i7 a ha (by simp only [af,List.mem_map];exact ⟨(a,_),j1,rfl⟩)
      · intro t ht;rcases List.mem_append.1 ht with ht|ht
        · intro hk;refine i7 t ht ?_;simp only [af,List.mem_map] at hk ⊢;obtain ⟨q,hq,rfl⟩:=hk;exact ⟨q,(j3 q).2 (.inr hq),rfl⟩
        simp at ht;subst ht;exact j5
      intro t;rw [<-i8];simp only [List.mem_append,List.mem_singleton,af,List.mem_map];constructor
      · rintro ((h|rfl)|⟨q,hq,rfl⟩)
        · exact .inl h
        · exact .inr ⟨_,j1,rfl⟩
        exact .inr ⟨q,(j3 q).2 (.inr hq),rfl⟩
      rintro (h|⟨q,hq,rfl⟩)
      · exact .inl (.inl h)
      rcases (j3 q).1 hq with rfl|h
      · exact .inl (.inr rfl)
      exact .inr ⟨q,h,rfl⟩
     have:=hc.out.2.2.2.2.1;simp [kf] at this ⊢;omega
   | nil=>
     go_wp2_with (refine ay (o:=⟨some 9,_,_,_,_,_⟩) rfl _ rfl rfl hc.out.1 ?_ (by intro s b left' w2 hmem;cases hmem);intro _;go_frame);obtain ⟨i1,i2,i3,i4,i5,i6,i7,i8⟩:=hc.out;have hacc:acc.length<=1000000:=by simp at i5;omega
     have hmem:∀s,s∈acc↔s∈af l:=fun s=>by rw [<-i8];simp [af]
     by_cases qR:acc.length<=1
     · have WO:¬(1:Int)<(acc.length:Int):=by omega
       have HM:=Y0 hmem;clear hmem i1 i2 i3 i4 i5 i6 i7 i8;go_wp2;refine wp_loop_rounds 1 ?_;rw [rounds_succ];go_wp2;go_ret;obtain ⟨i1,i2,i3,i4,i5,i6,i7,i8⟩:=hc.out;refine ⟨_,acc,F,rfl,⟨?_,HM.out⟩,i2,fun b hb=>⟨by have:=(i3 b hb).1;omega,(i3 b hb).2⟩,i4⟩
       match acc,qR with
       | [],_=>exact List.Pairwise.nil
       | [a],_=>exact List.pairwise_singleton _ _
     obtain ⟨g,cap',hA,hgb,_⟩:=(aW i2).form (by omega);simp only [Value.slice.injEq,true_and] at hA;obtain ⟨rfl,rfl⟩:=hA;have hrow:Hid (eW w.heap.size 110 wr g c0 acc):=Y0 (aW i2);have HM:=Y0 hmem;have Du:=Y0 i6;obtain ⟨wv,Mn⟩:∃wv,wv=wr:=⟨_,rfl⟩;obtain ⟨n,hn⟩:∃n,acc.length=n:=⟨_,rfl⟩;rw [<-Mn];have QN:=Y0 Mn;have HN:=Y0 hn;clear hmem i1 i2 i3 i4 i5 i6 i7 i8 Mn;rw [hn] at qR hacc ⊢;clear hn;go_wp2;go_loopw [5] (fun i wr2=>∃(i':Nat) (l1:List aa),i= .int .i64 i'/\i'<=n/\Hid (l1.Perm acc/\(l1.take i').Pairwise iC/\eW w.heap.size 110 wr2 g c0 l1/\wv.grownBy wr2 (some g))) (fun i _=>n - (intOf i).toNat)
     case atStart=>
      refine ⟨1,acc,rfl,by omega,Y0 ⟨List.Perm.refl _, ?_,QN.out▸hrow.out,⟨rfl,rfl,rfl,Nat.le_refl _,fun _ _ _=>rfl⟩⟩⟩
      cases acc with
      | nil=>exact List.Pairwise.nil
      | cons a l=>exact List.pairwise_singleton _ _
     obtain ⟨i',l1,rfl,hi2,hc3⟩:=hrel;by_cases hlt:(i':Int)<(n:Int)
     · go_wp2;go_loopw [6] (fun j wr2=>∃(k:Nat) (A B C:List aa) (x:aa),j= .int .i64 k/\k<n/\Hid (A.length=k/\A.length+B.length=i'/\(A++x::(B++C)).Perm acc/\(A++B).Pairwise iC/\(∀b∈B,iC x b)/\eW w.heap.size 110 wr2 g c0 (A++x::(B++C))/\wv.grownBy wr2 (some g))) (fun j _=>(intOf j).toNat)
       case atStart=>
        obtain ⟨p1,p2,p3,p4⟩:=hc3.out;have hlen:l1.length=n:=p1.length_eq.trans HN.out;have hi':i'<l1.length:=by omega
        have hsp:l1.take i'++l1[i']::([]++l1.drop (i'+1))=l1:=by
         rw [List.nil_append,<-List.drop_eq_getElem_cons hi',List.take_append_drop]
        refine ⟨i',l1.take i', [],l1.drop (i'+1),l1[i'],rfl,by omega,Y0 ⟨by simp<;>omega,by simp<;>omega,by rw [hsp];exact p1,by simpa using p2,by simp,by rw [hsp];exact p3,p4⟩⟩
       obtain ⟨k,A,B,C,x,rfl,hkl,vF⟩:=hrel;by_cases hz:0<k
       · have hz':(0:Int)<(k:Int):=by omega
         obtain ⟨A',y,hA',hk'⟩:∃A' y,A=A'++ [y]/\A'.length=A.length - 1:=kR (by rw [vF.out.1];exact hz);have HA:=Y0 hA';have HK:=Y0 hk';clear hA' hk';have hlist:Hid (A++x::(B++C)=A'++y::x::(B++C)):=Y0 (by rw [HA.out];simp);obtain ⟨k',rfl⟩:∃k',k=k'+1:=⟨k - 1,by omega⟩;have IX:A'.length=k':=by rw [HK.out,vF.out.1];rfl
         have IY:(A++x::(B++C)).length=n:=by rw [vF.out.2.2.1.length_eq];exact HN.out
         have hS:=vF.out.2.2.2.2.2.1;have c1:wr.cell? ⟨g,k'+1,none⟩=some (.string x):=hS.at_ (by rw [<-vF.out.1,List.getElem?_append_right (Nat.le_refl _)];simp);have c2:wr.cell? ⟨g,k',none⟩=some (.string y):=hS.at_ (by rw [hlist.out,<-IX,List.getElem?_append_right (Nat.le_refl _)];simp);have fz1:=World.ownsRow.frozenAt hS (k'+1);have fz2:=World.ownsRow.frozenAt hS k';have Mo:=Y0 IX;have HLN:=Y0 IY;have hk1:((k':Int)+1)<(n:Int):=by omega
         clear hS IX IY;cases hd:Op.bytesLess x.toList y.toList
         · have HD:Hid (qD x y=false):=Y0 hd;go_wp2;go_quiet (fail);go_wp2;obtain ⟨q1,q2,q3,q4,q5,q6,q7⟩:=vF.out;refine ⟨⟨i'+1,A++x::(B++C),by go_num,by omega,Y0 ⟨q3, ?_,by exact q6,jt q7 _⟩⟩,by simp [intOf]<;>omega⟩;rw [<-q2];refine lD q3 Du.out q4 q5 fun QD Kh he=> ?_
           have hy:Kh=y:=by
            have h1:=HA.out.symm.trans he;have:=congrArg List.getLast? h1;simpa using this.symm
           subst hy;exact HD.out
         have HD:Hid (qD x y=true):=Y0 hd;go_wp2;go_quiet (fail);go_wp2
         go_region
         go_wp2;go_roundw
         case rel=>
          obtain ⟨q1,q2,q3,q4,q5,q6,q7⟩:=vF.out;rw [hlist.out] at q6 q3;have hsw:=eW.swap (base:=w.heap.size) (e:=110) (w:=wr.drewN nq) (n:=k'+1) (by exact q6) (by rw [Mo.out]);refine ⟨k',A',y::B,C,x,by go_num,by omega,Y0 ⟨Mo.out,by have:=Mo.out;simp;omega, ?_, ?_, ?_,by exact hsw.1,xO (jt q7 nq) ⟨hsw.2.os,hsw.2.tape,hsw.2.output,hsw.2.size,hsw.2.block⟩⟩⟩
          · exact (List.Perm.append_left _ (List.Perm.swap _ _ _)).trans q3
          · rw [HA.out] at q4;simpa using q4
          intro b hb;rcases List.mem_cons.1 hb with rfl|hb
          · exact HD.out
          exact q5 b hb
         simp [intOf]<;>omega
       have hz':¬(0:Int)<(k:Int):=by omega
       go_wp2;go_quiet (fail);go_wp2;obtain ⟨q1,q2,q3,q4,q5,q6,q7⟩:=vF.out;refine ⟨⟨i'+1,A++x::(B++C),by go_num,by omega,Y0 ⟨q3, ?_,by exact q6,jt q7 _⟩⟩,by simp [intOf]<;>omega⟩;rw [<-q2];refine lD q3 Du.out q4 q5 fun QD Kh he=> ?_
       rw [he] at q1;simp at q1;omega
     go_wp2;go_ret;obtain ⟨p1,p2,p3,p4⟩:=hc3.out;obtain ⟨i1,i2,i3,i4,i5,i6,i7,i8⟩:=hc.out;have hlen:l1.length=n:=p1.length_eq.trans HN.out;rw [List.take_of_length_le (by omega)] at p2;have Ku:=bh i2 (k:=g) rfl;have CE:=i3 g Ku;rw [QN.out] at p4;refine ⟨_,rfl,l1,⟨p2,fun s=>by rw [<-HM.out,p1.mem_iff]⟩,F,cV (by rw [hlen];have:=p3;unfold eW at this;rwa [hlen] at this) (fun k hk=>by simp [Value.ownBlock] at hk;subst hk;exact Ku),fun b hb=>⟨by have:=(i3 b hb).1;omega,Nat.lt_of_lt_of_le (i3 b hb).2 p4.size⟩,i4.grown p4 i4.size (fun k e=>by injection e with e;omega)⟩
theorem f69:Kp 69 9:=Uj.1
theorem f128:Kp 128 9:=Uj.2.1
theorem f136:Kp 136 9:=Uj.2.2.1
theorem f137:Kp 137 9:=Uj.2.2.2
theorem f41:Kp 41 110:=fKb.1
theorem f58:Kp 58 110:=fKb.2
end Go.Proofs.YtjenhelmpcajfaaGreatDoor
