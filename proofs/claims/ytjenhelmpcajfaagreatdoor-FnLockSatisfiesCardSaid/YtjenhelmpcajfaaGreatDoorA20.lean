/- a tree of prefixes: a new edge -/
import Derived.Test.YtjenhelmpcajfaaGreatDoorA19
import Derived.BigRegion
set_option linter.all false
set_option maxRecDepth 100000
set_option maxHeartbeats 4000000
namespace Go.Proofs.YtjenhelmpcajfaaGreatDoor
open Go.Proofs.Tryz Go.RowKit
def bE:List (UInt8 × Nat)->List Value
 | []=> []
 | p::l=> .int .u8 p.1.toNat:: .pointer (some ⟨p.2,0,none⟩)::bE l
theorem lU (l k:List (UInt8 × Nat)):bE (l++k)=bE l++bE k:=by
 induction l with
 | nil=>rfl
 | cons p l ih=>simp [bE,ih]
theorem lV (l:List (UInt8 × Nat)):(bE l).length=l.length*2:=by
 induction l with
 | nil=>rfl
 | cons p l ih=>simp [bE,ih];omega
theorem zR {l:List (UInt8 × Nat)} {i:Nat} {p:UInt8 × Nat} (h:l[i]?=some p):(bE l)[i*2]?=some (.int .u8 p.1.toNat)/\(bE l)[i*2+1]?=some (.pointer (some ⟨p.2,0,none⟩)):=by
 induction l generalizing i with
 | nil=>simp at h
 | cons q l ih=>
   cases i with
   | zero=>simp at h;subst h;simp [bE]
   | succ i=>
     have:=ih (i:=i) (by simpa using h);rw [show (i+1)*2=i*2+1+1 by omega];simpa [bE] using this
abbrev iQ (w:World) (g cap:Nat) (l:List (UInt8 × Nat)):Prop:=w.ownsRow 0 250 2 (.slice (some ⟨g,0,none⟩) l.length cap) l.length (bE l)
theorem iQ.at_ {w:World} {g cap:Nat} {l:List (UInt8 × Nat)} (h:iQ w g cap l) {i:Nat} {p:UInt8 × Nat} (hp:l[i]?=some p):
 w.cell? ⟨g,i*2,none⟩=some (.int .u8 p.1.toNat)/\w.cell? ⟨g,i*2+1,none⟩=some (.pointer (some ⟨p.2,0,none⟩)):=by
 have hi:i<l.length:=(List.getElem?_eq_some_iff.1 hp).1;rw [h.cellAt (i*2) (by omega),h.cellAt (i*2+1) (by omega)];exact zR hp
theorem iQ.frz {w:World} {g cap:Nat} {l:List (UInt8 × Nat)} (h:iQ w g cap l) (j:Nat):w.frozen? ⟨g,j,none⟩=false:=World.ownsRow.frozenAt h j
theorem f270 (v:Value) (w:World) (A:Option Addr) (n cap:Nat) (hn:n<=9223372036854775807) (hv:v= .slice A n cap):Calls Tryz.prog 270 #[v] w fun e w'=>e= .returned (.int .i64 n)/\w'=w:=by
 subst hv;go_enter func270,ntmps270;go_wp2;go_ret;exact ⟨rfl,rfl⟩
theorem f271 (g cap i j n:Nat) (l:List (UInt8 × Nat)) (w:World) (h:iQ w g cap l) (hn:l.length=n) (p q:UInt8 × Nat) (hp:l[i]?=some p) (hq:l[j]?=some q) (hl:n<=1000):
 Calls Tryz.prog 271 #[.slice (some ⟨g,0,none⟩) n cap, .int .i64 i, .int .i64 j] w fun e w'=>e= .returned (.bool (decide (p.1.toNat<q.1.toNat)))/\∃k,w'=w.drewN k:=by
 obtain ⟨c1,c2⟩:=h.at_ hp;obtain ⟨d1,d2⟩:=h.at_ hq;have hi:(i:Int)<(n:Int):=by have:=(List.getElem?_eq_some_iff.1 hp).1;omega
 have hj:(j:Int)<(n:Int):=by have:=(List.getElem?_eq_some_iff.1 hq).1;omega
 have H:=Y0 h;have HP:=Y0 hp;have HQ:=Y0 hq;have HN:=Y0 hn;clear h hp hq hn;go_enter func271,ntmps271;go_wp2;go_quiet (fail);go_wp2;go_ret;exact ⟨aq rfl,_,rfl⟩
theorem f272 (g cap:Nat) (A B:List (UInt8 × Nat)) (x y:UInt8 × Nat) (n:Nat) (w:World) (h:iQ w g cap (A++y::x::B)) (hn:(A++y::x::B).length=n) (hl:n<=1000):
 Calls Tryz.prog 272 #[.slice (some ⟨g,0,none⟩) n cap, .int .i64 (A.length+1:Nat), .int .i64 A.length] w fun e w'=>e= .returned (.tuple #[])/\iQ w' g cap (A++x::y::B)/\w.grownBy w' (some g):=by
 subst hn;obtain ⟨c1,c2⟩:=h.at_ (i:=A.length) (p:=y) (by simp);obtain ⟨d1,d2⟩:=h.at_ (i:=A.length+1) (p:=x) (by simp);have hlen:(A++y::x::B).length=A.length+B.length+2:=by simp;omega
 have sO:(A++x::y::B).length=A.length+B.length+2:=by simp;omega
 have QC:∀(j:Nat),w.frozen? ⟨g,j,none⟩=false:=fun j=>h.frz j
 have hfin:=Y0 (show ∀W:World,W=((((w.setCell ⟨g,(A.length+1)*2,none⟩ (.int .u8 y.1.toNat)).setCell ⟨g,(A.length+1)*2+1,none⟩ (.pointer (some ⟨y.2,0,none⟩))).setCell ⟨g,A.length*2,none⟩ (.int .u8 x.1.toNat)).setCell ⟨g,A.length*2+1,none⟩ (.pointer (some ⟨x.2,0,none⟩)))->iQ W g cap (A++x::y::B)/\w.grownBy W (some g) from by
  intro W hW;subst hW;have s1:=h.stored ((A.length+1)*2) (.int .u8 y.1.toNat);have s2:=s1.1.stored ((A.length+1)*2+1) (.pointer (some ⟨y.2,0,none⟩));have s3:=s2.1.stored (A.length*2) (.int .u8 x.1.toNat);have s4:=s3.1.stored (A.length*2+1) (.pointer (some ⟨x.2,0,none⟩));refine ⟨?_, ?_⟩
  · have he:bE (A++x::y::B)=((((bE (A++y::x::B)).set ((A.length+1)*2) (.int .u8 y.1.toNat)).set ((A.length+1)*2+1) (.pointer (some ⟨y.2,0,none⟩))).set (A.length*2) (.int .u8 x.1.toNat)).set (A.length*2+1) (.pointer (some ⟨x.2,0,none⟩)):= ?_
    · unfold iQ;rw [sO,he,<-hlen];exact s4.1
    rw [lU,lU];have hA:=lV A;simp only [bE]
    rw [List.set_append_right _ _ (by omega),List.set_append_right _ _ (by omega),List.set_append_right _ _ (by omega),List.set_append_right _ _ (by omega),hA,
     show (A.length+1)*2 - A.length*2=2 by omega,show (A.length+1)*2+1 - A.length*2=3 by omega,Nat.sub_self,show A.length*2+1 - A.length*2=1 by omega]
    rfl
  refine ⟨rfl,rfl,rfl,by simp,fun k hk hne=> ?_⟩;rw [s4.2.block k (by simpa using hk) hne,s3.2.block k (by simpa using hk) hne,s2.2.block k (by simpa using hk) hne,s1.2.block k (by simpa using hk) hne])
 have H:=Y0 h;clear h;rw [hlen] at hl ⊢;clear hlen sO;have hi:((A.length:Nat):Int)<((A.length+B.length+2:Nat):Int):=by omega
 have hj:((A.length+1:Nat):Int)<((A.length+B.length+2:Nat):Int):=by omega
 go_enter func272,ntmps272;go_wp2
 go_region
 go_wp2
 go_end0
 obtain ⟨r1,r2⟩:=hfin.out _ rfl;exact ⟨rfl,World.ownsRow.drew r1,⟨r2.os,r2.tape,r2.output,r2.size,r2.block⟩⟩
abbrev ql (a b:UInt8 × Nat):Prop:=a.1.toNat<b.1.toNat
theorem rh {A:List (UInt8 × Nat)} (h:0<A.length):∃A' y,A=A'++ [y]/\A'.length=A.length - 1:=by
 refine ⟨A.dropLast,A.getLast (by intro e;simp [e] at h),(List.dropLast_concat_getLast _).symm,by simp⟩
theorem xE {w w':World} {r:Option Nat} (h:w.grownBy w' r) (q:Nat):w.grownBy (w'.drewN q) r:=⟨h.os,h.tape,h.output,h.size,h.block⟩
theorem E6 {w w' w'':World} {r:Option Nat} (h:w.grownBy w' r) (k:w'.grownBy w'' r):w.grownBy w'' r:=
 ⟨k.os.trans h.os,k.tape.trans h.tape,k.output.trans h.output,Nat.le_trans h.size k.size,fun b hb hne=>(k.block b (Nat.lt_of_lt_of_le hb h.size) hne).trans (h.block b hb hne)⟩
theorem xG {l A B C:List (UInt8 × Nat)} {x:UInt8 × Nat} (hp:(A++x::(B++C)).Perm l) (hnd:(l.map (·.1)).Nodup) (hs:(A++B).Pairwise ql) (hb:∀b∈B,ql x b) (hx:∀A' y,A=A'++ [y]->¬ql x y):
 ((A++x::(B++C)).take (A.length+B.length+1)).Pairwise ql:=by
 have ht:(A++x::(B++C)).take (A.length+B.length+1)=A++x::B:=by
  rw [List.take_append,List.take_of_length_le (by omega),show A.length+B.length+1 - A.length=B.length+1 by omega,List.take_succ_cons,List.take_append,List.take_of_length_le (Nat.le_refl _)];simp
 rw [ht];have hs':=List.pairwise_append.1 hs;refine List.pairwise_append.2 ⟨hs'.1,List.Pairwise.cons hb hs'.2.1,fun a ha b hb'=> ?_⟩;rcases List.mem_cons.1 hb' with rfl|hb'
 · have hA:0<A.length:=List.length_pos_of_mem ha;obtain ⟨A',y,rfl,_⟩:=rh hA;have hnx:=hx A' y rfl;have hnd':(((A'++ [y])++b::(B++C)).map (·.1)).Nodup:=(hp.map (·.1)).nodup_iff.2 hnd
   have hne:y.1≠b.1:=by
    rw [List.map_append,List.nodup_append] at hnd';exact hnd'.2.2 y.1 (by simp) b.1 (by simp)
   have hyx:ql y b:=by
    have:y.1.toNat≠b.1.toNat:=fun e=>hne (UInt8.toNat_inj.1 e)
    unfold ql at hnx ⊢;omega
   rcases List.mem_append.1 ha with h1|h1
   · have:=(List.pairwise_append.1 hs'.1).2.2 a h1 y (by simp);unfold ql at this hyx ⊢;omega
   simp at h1;subst h1;exact hyx
 exact hs'.2.2 a ha b hb'
theorem f182 (g cap n:Nat) (l:List (UInt8 × Nat)) (w:World) (h:iQ w g cap l) (hn:l.length=n) (hl:n<=100) (h1:1<=n) (hnd:(l.map (·.1)).Nodup):
 Calls Tryz.prog 182 #[.iface 243 (.slice (some ⟨g,0,none⟩) n cap), .int .i64 0, .int .i64 n] w fun e w'=>e= .returned (.tuple #[])/\∃l',l'.Perm l/\l'.Pairwise ql/\iQ w' g cap l'/\w.grownBy w' (some g):=by
 have H:=Y0 h;have HN:=Y0 hnd;have HL:=Y0 hn;clear h hnd hn;have mL:∀w,(method 541 243 (.slice (some ⟨g,0,none⟩) n cap) "Less").run Tryz.prog w= .ok (271, .slice (some ⟨g,0,none⟩) n cap) w:=fun _=>by kernel_rfl
 have mS:∀w,(method 541 243 (.slice (some ⟨g,0,none⟩) n cap) "Swap").run Tryz.prog w= .ok (272, .slice (some ⟨g,0,none⟩) n cap) w:=fun _=>by kernel_rfl
 go_enter func182,ntmps182;go_wp2;go_loopw [6] (fun i wr=>∃(i':Nat) (l1:List (UInt8 × Nat)),i= .int .i64 i'/\i'<=n/\Hid (l1.Perm l/\(l1.take i').Pairwise ql/\iQ wr g cap l1/\w.grownBy wr (some g))) (fun i _=>n - (intOf i).toNat)
 case atStart=>
  refine ⟨1,l,rfl,h1,Y0 ⟨List.Perm.refl _, ?_,H.out,⟨rfl,rfl,rfl,Nat.le_refl _,fun _ _ _=>rfl⟩⟩⟩
  cases l with
  | nil=>exact List.Pairwise.nil
  | cons a l=>exact List.pairwise_singleton _ _
 obtain ⟨i',l1,rfl,hi2,hc⟩:=hrel;by_cases hlt:(i':Int)<(n:Int)
 · go_wp2;go_loopw [7] (fun j wr=>∃(k:Nat) (A B C:List (UInt8 × Nat)) (x:UInt8 × Nat),j= .int .i64 k/\k<n/\Hid (A.length=k/\A.length+B.length=i'/\(A++x::(B++C)).Perm l/\(A++B).Pairwise ql/\(∀b∈B,ql x b)/\iQ wr g cap (A++x::(B++C))/\w.grownBy wr (some g))) (fun j _=>(intOf j).toNat)
   case atStart=>
    obtain ⟨p1,p2,p3,p4⟩:=hc.out;have hlen:l1.length=n:=p1.length_eq.trans HL.out;have hi':i'<l1.length:=by omega
    have hsp:l1.take i'++l1[i']::([]++l1.drop (i'+1))=l1:=by
     rw [List.nil_append,<-List.drop_eq_getElem_cons hi',List.take_append_drop]
    refine ⟨i',l1.take i', [],l1.drop (i'+1),l1[i'],rfl,by omega,Y0 ⟨by simp;omega,by simp;omega,by rw [hsp];exact p1,by simpa using p2,by simp,by rw [hsp];exact p3,p4⟩⟩
   obtain ⟨k,A,B,C,x,rfl,hkl,hc2⟩:=hrel;by_cases hz:0<k
   · have hz':(0:Int)<(k:Int):=by omega
     obtain ⟨A',y,hA',hk'⟩:∃A' y,A=A'++ [y]/\A'.length=A.length - 1:=rh (by rw [hc2.out.1];exact hz);have HA:=Y0 hA';have HK:=Y0 hk';clear hA' hk';have hlist:Hid (A++x::(B++C)=A'++y::x::(B++C)):=Y0 (by rw [HA.out];simp);cases hd:decide (x.1.toNat<y.1.toNat)
     · have HD:=Y0 hd;clear hd;go_wp2_with (first|(go_at_call 271;rw [show ((k:Int) - 1)=((k - 1:Nat):Int) by omega];refine (f271 g cap k (k - 1) n _ _ hc2.out.2.2.2.2.2.1 (by rw [hc2.out.2.2.1.length_eq];exact HL.out) x y (by rw [<-hc2.out.1,List.getElem?_append_right (Nat.le_refl _)];simp) (by rw [hlist.out,<-hc2.out.1,<-HK.out,List.getElem?_append_right (Nat.le_refl _)];simp) (by omega)).mono ?_;rw [HD.out];rintro e w1 ⟨rfl,q,rfl⟩));go_roundw
       case rel=>
        obtain ⟨q1,q2,q3,q4,q5,q6,q7⟩:=hc2.out;refine ⟨i'+1,A++x::(B++C),by go_num,by omega,Y0 ⟨q3, ?_,q6,xE q7 _⟩⟩;rw [<-q2];refine xG q3 HN.out q4 q5 fun QD Kh he=> ?_
        have hy:Kh=y:=by
         have h1:=HA.out.symm.trans he;have:=congrArg List.getLast? h1;simpa using this.symm
        subst hy;exact of_decide_eq_false HD.out
       simp [intOf];omega
     have HD:=Y0 hd;clear hd;have e1:k - 1=A'.length:=by rw [HK.out,hc2.out.1]
     go_wp2_with (first|(go_at_call 271;rw [show ((k:Int) - 1)=((k - 1:Nat):Int) by omega];refine (f271 g cap k (k - 1) n _ _ hc2.out.2.2.2.2.2.1 (by rw [hc2.out.2.2.1.length_eq];exact HL.out) x y (by rw [<-hc2.out.1,List.getElem?_append_right (Nat.le_refl _)];simp) (by rw [hlist.out,<-hc2.out.1,<-HK.out,List.getElem?_append_right (Nat.le_refl _)];simp) (by omega)).mono ?_;rw [HD.out];rintro e w1 ⟨rfl,q,rfl⟩)|(go_at_call 272;rw [show ((k:Int) - 1)=((A'.length:Nat):Int) by omega,show (k:Int)=((A'.length+1:Nat):Int) by omega];refine (f272 g cap A' (B++C) x y n _ (by have:=hlist.out▸hc2.out.2.2.2.2.2.1;exact this) (by rw [<-hlist.out,hc2.out.2.2.1.length_eq];exact HL.out) (by omega)).mono ?_;rintro e w2 ⟨rfl,hE,hG⟩));go_roundw
     case rel=>
      obtain ⟨q1,q2,q3,q4,q5,q6,q7⟩:=hc2.out;refine ⟨A'.length,A',y::B,C,x,by go_num,by omega,Y0 ⟨rfl,by simp;omega, ?_, ?_, ?_,hE,E6 (xE q7 _) hG⟩⟩
      · refine List.Perm.trans ?_ q3;rw [hlist.out];exact List.Perm.append_left _ (List.Perm.swap _ _ _)
      · have:=q4;rw [HA.out] at this;simpa using this
      intro b hb;rcases List.mem_cons.1 hb with rfl|hb
      · exact of_decide_eq_true HD.out
      exact q5 b hb
     simp [intOf];omega
   have hz':¬(0:Int)<(k:Int):=by omega
   go_wp2;go_roundw
   case rel=>
    obtain ⟨q1,q2,q3,q4,q5,q6,q7⟩:=hc2.out;refine ⟨i'+1,A++x::(B++C),by go_num,by omega,Y0 ⟨q3, ?_,q6,q7⟩⟩;rw [<-q2];refine xG q3 HN.out q4 q5 fun QD Kh he=> ?_
    rw [he] at q1;simp at q1;omega
   simp [intOf];omega
 go_wp2
 go_end0
 obtain ⟨p1,p2,p3,p4⟩:=hc.out;refine ⟨rfl,l1,p1, ?_,p3,p4⟩;have hlen:l1.length=n:=p1.length_eq.trans HL.out
 rwa [List.take_of_length_le (by omega)] at p2
def Env (w w':World):Prop:=w'.os=w.os/\w'.tape=w.tape/\w'.output=w.output
theorem Env.refl (w:World):Env w w:=⟨rfl,rfl,rfl⟩
theorem Env.trans {a b c:World} (h:Env a b) (k:Env b c):Env a c:=⟨k.1.trans h.1,k.2.1.trans h.2.1,k.2.2.trans h.2.2⟩
theorem Env.below {w w':World} {B:Nat} (h:Below B w w'):Env w w':=⟨h.os,h.tape,h.output⟩
theorem Env.grown {w w':World} {r:Option Nat} (h:w.grownBy w' r):Env w w':=⟨h.os,h.tape,h.output⟩
theorem Env.alloc {w w':World} (h:Env w w') (o:Obj):Env w (w'.alloc o):=h
theorem Env.drew {w w':World} (h:Env w w'):Env w w'.drew:=h
theorem Env.drewN {w w':World} (h:Env w w') (n:Nat):Env w (w'.drewN n):=h
theorem Env.setCell {w w':World} (h:Env w w') (a:Addr) (v:Value):Env w (w'.setCell a v):=h.trans (Env.below ((Below.refl 0 w').setCell (Nat.zero_le _) v))
theorem Env.below_of {w w':World} {B:Nat} (h:Env w w') (hs:w.heap.size<=w'.heap.size) (hb:∀k,k<B->w'.heap[k]?=w.heap[k]?):Below B w w':=⟨h.1,h.2.1,h.2.2,hs,hb⟩
theorem f175 (g cap n:Nat) (k:Int) (l:List (UInt8 × Nat)) (w:World) (h:iQ w g cap l) (hn:l.length=n) (hl:n<=12) (h1:1<=n) (hnd:(l.map (·.1)).Nodup):
 Calls Tryz.prog 175 #[.iface 243 (.slice (some ⟨g,0,none⟩) n cap), .int .i64 0, .int .i64 n, .int .i64 k] w fun e w'=>e= .returned (.tuple #[])/\∃l',l'.Perm l/\l'.Pairwise ql/\iQ w' g cap l'/\w.grownBy w' (some g):=by
 have H:=Y0 h;have HN:=Y0 hnd;have HL:=Y0 hn;clear h hnd hn;go_enter func175,ntmps175;go_wp2;refine wp_loop_once ?_;go_wp2_with (go_at_call 182;refine (f182 g cap n l _ H.out HL.out (by omega) h1 HN.out).mono ?_;rintro e w1 ⟨rfl,l',p1,p2,p3,p4⟩)
 (try simp only [Exit.inBlock,Exit.then]);refine bodyPost_ret (results_none rfl _ _ _) rfl ?_
 exact ⟨rfl,l',p1,p2,p3,p4⟩
theorem f162 (n:Nat) (w:World) (h:n<=12):Calls Tryz.prog 162 #[.int .u64 n] w fun e w'=>(∃k:Int,e= .returned (.int .i64 k))/\w'=w:=by
 match n,h with
 | 0,_|1,_|2,_|3,_|4,_|5,_|6,_|7,_|8,_|9,_|10,_|11,_|12,_=>
   go_enter func162,ntmps162;go_wp2;go_ret;exact ⟨⟨_,rfl⟩,rfl⟩
theorem f140 (n:Nat) (w:World) (h:n<=12):Calls Tryz.prog 140 #[.int .u64 n] w fun e w'=>(∃k:Int,e= .returned (.int .i64 k))/\w'=w:=by
 go_enter func140,ntmps140;go_wp2_with (go_at_call 162;refine (f162 n _ h).mono ?_;rintro e w1 ⟨⟨k,rfl⟩,rfl⟩);go_ret;exact ⟨⟨_,rfl⟩,rfl⟩
theorem f163 (g cap n:Nat) (l:List (UInt8 × Nat)) (w:World) (h:iQ w g cap l) (hn:l.length=n) (hl:n<=12) (h1:1<=n) (hnd:(l.map (·.1)).Nodup):
 Calls Tryz.prog 163 #[.iface 243 (.slice (some ⟨g,0,none⟩) n cap)] w fun e w'=>e= .returned (.tuple #[])/\∃l',l'.Perm l/\l'.Pairwise ql/\iQ w' g cap l'/\w.grownBy w' (some g):=by
 have H:=Y0 h;have HN:=Y0 hnd;have HL:=Y0 hn;clear h hnd hn;have mN:∀w,(method 541 243 (.slice (some ⟨g,0,none⟩) n cap) "Len").run Tryz.prog w= .ok (270, .slice (some ⟨g,0,none⟩) n cap) w:=fun _=>by kernel_rfl
 by_cases h2:n=1
 · subst h2;go_enter func163,ntmps163;go_wp2_with (go_at_call 270;refine (f270 _ _ _ _ _ (by omega) rfl).mono ?_;rintro e w1 ⟨rfl,rfl⟩)
   (try simp only [Exit.inBlock,Exit.then]);refine bodyPost_ret (results_none rfl _ _ _) rfl ?_
   refine ⟨rfl,l,List.Perm.refl _, ?_,H.out,⟨rfl,rfl,rfl,Nat.le_refl _,fun _ _ _=>rfl⟩⟩;have:=HL.out
   match l,this with
   | [a],_=>exact List.pairwise_singleton _ _
 have h3:¬(n:Int)<=1:=by omega
 go_enter func163,ntmps163;go_wp2_with (first|(go_at_call 270;refine (f270 _ _ _ _ _ (by omega) rfl).mono ?_;rintro e w1 ⟨rfl,rfl⟩)|(go_at_call 140;refine (f140 n _ hl).mono ?_;rintro e w1 ⟨⟨k,rfl⟩,rfl⟩)|(go_at_call 175;refine (f175 g cap n _ l _ H.out HL.out hl h1 HN.out).mono ?_;rintro e w1 ⟨rfl,l',p1,p2,p3,p4⟩))
 go_end0
 exact ⟨rfl,l',p1,p2,p3,p4⟩
theorem f144 (g cap n:Nat) (l:List (UInt8 × Nat)) (w:World) (h:iQ w g cap l) (hn:l.length=n) (hl:n<=12) (h1:1<=n) (hnd:(l.map (·.1)).Nodup):
 Calls Tryz.prog 144 #[.slice (some ⟨g,0,none⟩) n cap] w fun e w'=>e= .returned (.tuple #[])/\∃l',l'.Perm l/\l'.Pairwise ql/\iQ w' g cap l'/\w.grownBy w' (some g):=by
 have H:=Y0 h;have HN:=Y0 hnd;have HL:=Y0 hn;clear h hnd hn;go_enter func144,ntmps144;go_wp2_with (go_at_call 163;refine (f163 g cap n l _ H.out HL.out hl h1 HN.out).mono ?_;rintro e w1 ⟨rfl,l',p1,p2,p3,p4⟩)
 go_end0
 exact ⟨rfl,l',p1,p2,p3,p4⟩
theorem f76 (tb sz:Nat) (v:Value) (w:World) (h:w.heap[tb]?=some (.cells #[v, .int .i64 sz] 241 (0,0))):Calls Tryz.prog 76 #[.pointer (some ⟨tb,0,none⟩)] w fun e w'=>e= .returned (.int .i64 sz)/\w'=w:=by
 have hc:=cellAt (j:=1) h rfl;have H:=Y0 h;clear h;go_enter func76,ntmps76;go_wp2;go_ret;exact ⟨rfl,rfl⟩
theorem f111 (w:World):Calls Tryz.prog 111 #[.map none] w fun e w'=>∃tb n0,e= .returned (.pointer (some ⟨tb,0,none⟩))/\mr w' tb n0 none (.slice none 0 0) .nil 0/\Below w.heap.size w w'/\w.heap.size<=n0/\w.heap.size<=tb/\n0≠tb:=by
 have e0:((w.alloc (.cells #[.pointer none, .string ⟨#[]⟩, .slice none 0 0] 245)).alloc (.cells #[.pointer (some ⟨w.heap.size,0,none⟩), .int .i64 0] 241)).heap.size=w.heap.size+1+1:=by simp
 have hrg:=run_range_nilMap (P:=Tryz.prog) ((w.alloc (.cells #[.pointer none, .string ⟨#[]⟩, .slice none 0 0] 245)).alloc (.cells #[.pointer (some ⟨w.heap.size,0,none⟩), .int .i64 0] 241)) 303 9 20 underlying303;have hnx:∀ty,(Instr.next (.pointer (some ⟨((w.alloc (.cells #[.pointer none, .string ⟨#[]⟩, .slice none 0 0] 245)).alloc (.cells #[.pointer (some ⟨w.heap.size,0,none⟩), .int .i64 0] 241)).heap.size,0,none⟩)) false ty).run Tryz.prog (((w.alloc (.cells #[.pointer none, .string ⟨#[]⟩, .slice none 0 0] 245)).alloc (.cells #[.pointer (some ⟨w.heap.size,0,none⟩), .int .i64 0] 241)).alloc (.mapIter none 0 #[] 0))=_:=fun ty=>run_next_nilMap _ ty 0 0 #[]
 rw [e0] at hrg hnx;go_enter func111,ntmps111;go_wp2;refine wp_loop_rounds 1 ?_;rw [rounds_succ];go_wp2;go_ret;refine ⟨w.heap.size+1,w.heap.size,rfl,⟨?_, ?_,trivial,World.ownsRow_nil _ _ _ _,trivial⟩, ?_,Nat.le_refl _,by omega,by omega⟩
 · have h1:=heap_alloc_new (w.alloc (.cells #[.pointer none, .string ⟨#[]⟩, .slice none 0 0] 245)) (.cells #[.pointer (some ⟨w.heap.size,0,none⟩), .int .i64 0] 241);rw [World.size_alloc] at h1;exact ax h1 ((Below.refl _ _).alloc (Nat.le_refl _) _)
 · exact ax (ax (heap_alloc_new w (.cells #[.pointer none, .string ⟨#[]⟩, .slice none 0 0] 245)) ((Below.refl _ _).alloc (Nat.le_refl _) _)) ((Below.refl _ _).alloc (Nat.le_refl _) _)
 exact (((Below.refl _ _).alloc (Nat.le_refl _) _).alloc (by simp) _).alloc (by simp;omega) _
theorem f71 (w:World):Calls Tryz.prog 71 #[] w fun e w'=>∃tb n0,e= .returned (.pointer (some ⟨tb,0,none⟩))/\mr w' tb n0 none (.slice none 0 0) .nil 0/\Below w.heap.size w w'/\w.heap.size<=n0/\w.heap.size<=tb/\n0≠tb:=by
 go_enter func71,ntmps71;go_wp2_with (go_at_call 111;refine (f111 _).mono ?_;rintro e w1 ⟨tb,n0,rfl,hT,hB,g1,g2,g3⟩);go_ret;exact ⟨tb,n0,rfl,hT,hB,g1,g2,g3⟩
def xH:Kd (UInt8 × Nat) where
 sz:=2
 rep:=fun _ _ p cs=>cs= [.int .u8 p.1.toNat, .pointer (some ⟨p.2,0,none⟩)]
 len:=fun h=>by rw [h];rfl
 one:=fun h u hu=>by subst h;simp at hu;rcases hu with rfl|rfl<;>rfl
 step:=fun _ _ h=>h
theorem IH:(Tryz.prog.info? 250).map (fun i=>(i.zero,i.size,i.bytes))=some (some (.agg #[.int .u8 0, .pointer none]),2,16):=by kernel_rfl
theorem pd (l:List (UInt8 × Nat)) (i:Nat) (p:UInt8 × Nat) (h:l[i]?=some p):((bE l).drop (i*2)).take 2= [.int .u8 p.1.toNat, .pointer (some ⟨p.2,0,none⟩)]:=by
 induction l generalizing i with
 | nil=>simp at h
 | cons q l ih=>
   cases i with
   | zero=>simp at h;subst h;simp [bE]
   | succ i=>
     have:=ih i (by simpa using h);rw [show (i+1)*2=i*2+1+1 by omega];simpa [bE] using this
theorem CF {w:World} {v:Value} {l:List (UInt8 × Nat)} (h:w.ownsRow 0 250 2 v l.length (bE l)):Own xH 0 250 (fun b=>v.ownBlock=some b) w v l:=
 ⟨bE l,h,fun _ h=>h,fun i x hx=>⟨_,rfl,pd l i x hx⟩⟩
theorem CG {w:World} {F:Nat->Prop} {v:Value} {l:List (UInt8 × Nat)} (h:Own xH 0 250 F w v l):w.ownsRow 0 250 2 v l.length (bE l):=by
 obtain ⟨cs,h1,h2,h3⟩:=h
 have:cs=bE l:=by
  have hlen:=h1.1;apply List.ext_getElem?;intro j;by_cases hj:j<l.length*2
  · have hx:l[j / 2]?=some l[j / 2]:=List.getElem?_eq_getElem (by omega);obtain ⟨c,hc,he⟩:=h3 (j / 2) _ hx;have he2:=pd l (j / 2) _ hx;have heq:(cs.drop (j / 2*2)).take 2=((bE l).drop (j / 2*2)).take 2:=by rw [he2];rw [hc] at he;exact he
    have:=congrArg (fun z=>z[j % 2]?) heq;simp only [List.getElem?_take,List.getElem?_drop] at this;rw [if_pos (by omega),if_pos (by omega)] at this
    rwa [show j / 2*2+j % 2=j by omega] at this
  have hl:=lV l;rw [List.getElem?_eq_none (by rw [hlen];simp only [xH];omega),List.getElem?_eq_none (by omega)]
 rw [this] at h1;exact h1
theorem f117 (k:Nat) (lv:Value) (pre:aa) (ev:Value) (c:UInt8) (n:Nat) (l:List (UInt8 × Nat)) (w:World) (h:w.heap[k]?=some (.cells #[lv, .string pre,ev] 245 (0,0))) (hr:w.ownsRow 0 250 2 ev l.length (bE l)) (hl:l.length<=11)
 (hnd:(l.map (·.1)).Nodup) (hc:c∉l.map (·.1)) (hk:ev.ownBlock≠some k):
 Calls Tryz.prog 117 #[.pointer (some ⟨k,0,none⟩), .agg #[.int .u8 c.toNat, .pointer (some ⟨n,0,none⟩)]] w fun e w'=>e= .returned (.tuple #[])/\∃l' ev',l'.Perm (l++ [(c,n)])/\l'.Pairwise ql/\
  w'.heap[k]?=some (.cells #[lv, .string pre,ev'] 245 (0,0))/\w'.ownsRow 0 250 2 ev' l'.length (bE l')/\w.heap.size<=w'.heap.size/\(∀b,b<w.heap.size->b≠k->ev.ownBlock≠some b->w'.heap[b]?=w.heap[b]?)/\(∀b,ev'.ownBlock=some b->ev.ownBlock=some b\/w.heap.size<=b)/\(∀b,ev'.ownBlock=some b->b≠k)/\Env w w':=by
 obtain ⟨A,cap,hev⟩:=rf hr;subst hev;have hb1:Below w.heap.size w (w.alloc (.cells #[.int .u8 c.toNat, .pointer (some ⟨n,0,none⟩)] 250)):=(Below.refl _ _).alloc (Nat.le_refl _) _;have hW:=ax h hb1;have hc2:=cellAt (j:=2) hW rfl;have HW:=Y0 hW;have HRW:=Y0 (cG hr hb1);have hE:=Rd.one (d:=xH) (F:=fun b=>(Value.slice A l.length cap).ownBlock=some b) (w:=w.alloc (.cells #[.int .u8 c.toNat, .pointer (some ⟨n,0,none⟩)] 250)) (e:=250) (x:=(c,n)) (cs:= #[.int .u8 c.toNat, .pointer (some ⟨n,0,none⟩)]) rfl (by intro b hb;have:=(hr.lt b hb).2;simp;omega);rw [World.size_alloc] at hE;have hb2:Below w.heap.size w ((w.alloc (.cells #[.int .u8 c.toNat, .pointer (some ⟨n,0,none⟩)] 250)).alloc (.cells #[.int .u8 c.toNat, .pointer (some ⟨n,0,none⟩)] 250)).drew:=(hb1.alloc (by simp) _).drew;have HO:=Y0 (CF (cG hr hb2));have hW2:=ax h hb2;have sX:=Y0 hW2;have vF:((w.alloc (.cells #[.int .u8 c.toNat, .pointer (some ⟨n,0,none⟩)] 250)).alloc (.cells #[.int .u8 c.toNat, .pointer (some ⟨n,0,none⟩)] 250)).cell? ⟨k,2,none⟩=some (.slice A l.length cap):=cellAt (j:=2) hW2 rfl;clear hW2;have HE:=Y0 (hE.pure (w':=((w.alloc (.cells #[.int .u8 c.toNat, .pointer (some ⟨n,0,none⟩)] 250)).alloc (.cells #[.int .u8 c.toNat, .pointer (some ⟨n,0,none⟩)] 250)).drew) ((Below.refl _ _).drew));clear hE hb2;clear hb1 hW;have H:=Y0 h;have HN:=Y0 hnd;have HC:=Y0 hc;have HR:=Y0 hr;have HK:=Y0 hk;clear h hnd hc hr hk;go_enter func117,ntmps117;go_wp2;go_region_law (first|(refine fg (o:=⟨some 11,_,_,_,_,_⟩) rfl _ _ 243 rfl xH 250 (.agg #[.int .u8 0, .pointer none]) 16 underlying243 IH rfl (by decide) rfl rfl HO.out HE.out (by simp [maxLen];omega) (by simp;omega) (Nat.zero_le _) rfl (l.length+1) (by simp) ?_;intro A2 c2 w2 F2 ja ji cZ oz;have hk2:=oz.block k (by exact (Array.getElem?_eq_some_iff.1 sX.out).1) (Ne.symm HK.out);rw [sX.out] at hk2;have hc3:=cellAt (j:=2) hk2 rfl;have hf3:=frozenAt (j:=2) hk2;have Ou:=Y0 hk2;have hk3:=heap_setCell_same w2 k 2 _ _ (.slice A2 (l.length+1) c2) hk2;have E7:=cellAt (j:=2) hk3 rfl;have HK3:=Y0 hk3;clear hk2 hk3;have Wm:=Y0 ja;clear ja))
 all_goals
  have ja:=Wm.out;have hrow:=CG ja;rw [show (l++ [(c,n)]).length=l.length+1 by simp] at hrow;obtain ⟨g,cap',hA,_,_⟩:=hrow.form (by omega);simp only [Value.slice.injEq,true_and] at hA;obtain ⟨rfl,rfl⟩:=hA
  have WC:g≠k:=by
   intro e;subst e;rcases hrow.2 with ⟨h',_⟩|⟨g',cap',cur,h',_,hg,_⟩
   · simp at h'
   simp only [Value.slice.injEq,Option.some.injEq,Addr.mk.injEq,and_true,true_and] at h';obtain ⟨rfl,rfl⟩:=h';rw [Ou.out] at hg;simp at hg
  have lL:Hid (iQ (w2.setCell ⟨k,2,none⟩ (.slice (some ⟨g,0,none⟩) (l.length+1) c2)) g c2 (l++ [(c,n)])):=Y0 (by
   unfold iQ;rw [show (l++ [(c,n)]).length=l.length+1 by simp];exact bD hrow fun q hq=>heap_setCell_other w2 ⟨k,2,none⟩ q _ (by simp [Value.ownBlock] at hq;rw [<-hq];exact fun e=>WC (by first|exact e|exact e.symm)))
  have hgo:g<w.heap.size->(Value.slice A l.length cap).ownBlock=some g:=fun hlt=>by
   obtain ⟨cs,_,hF,_⟩:=ja;exact ji.old g (by simp;omega) (hF g rfl)
  have HGO:=Y0 hgo;have HG2:=Y0 oz;have HGK:=Y0 WC;clear ja hrow hgo oz WC ji cZ;go_wp2_with (go_at_call 144;refine (f144 g c2 (l.length+1) (l++ [(c,n)]) _ lL.out (by simp) (by omega) (by omega) (by rw [List.map_append,List.nodup_append];exact ⟨HN.out,by simp,fun a ha b hb e=>HC.out (by simp at hb;rw [<-hb,<-e];exact ha)⟩)).mono ?_;rintro e w4 ⟨rfl,l',p1,p2,p3,p4⟩)
  go_end0
  have hks:k<w2.heap.size:=(Array.getElem?_eq_some_iff.1 Ou.out).1;refine ⟨rfl,l', .slice (some ⟨g,0,none⟩) (l.length+1) c2,p1,p2, ?_, ?_, ?_, ?_, ?_, ?_,((((Env.refl w).alloc _).alloc _).drew.trans (Env.grown HG2.out)).setCell _ _|>.trans (Env.grown p4)⟩
  · rw [p4.block k (by simpa using hks) (by simpa using Ne.symm HGK.out)];exact HK3.out
  · have:=p3;unfold iQ at this
    rwa [show l'.length=l.length+1 by rw [p1.length_eq];simp] at this ⊢
  · have h1:=HG2.out.size;have h2:=p4.size;simp at h1 h2;omega
  · intro b hb hbk hne;have hsz:b<w2.heap.size:=by have h1:=HG2.out.size;simp at h1;omega
    rw [p4.block b (by simpa using hsz) (by intro e;injection e with e;subst e;exact hne (HGO.out hb)),heap_setCell_other w2 ⟨k,2,none⟩ b _ (by exact fun e=>hbk (by first|exact e|exact e.symm)),HG2.out.block b (by simp;omega) (Ne.symm hne)];exact (Below.heap_alloc _ _ b (by simp;omega)).trans (Below.heap_alloc _ _ b hb)
  · intro b hb;simp [Value.ownBlock] at hb;subst hb;rcases Nat.lt_or_ge g w.heap.size with h|h
    · exact .inl (HGO.out h)
    exact .inr h
  · intro b hb;simp [Value.ownBlock] at hb;subst hb;exact HGK.out
def bF (n:Nat) (leaf:bl) (ev:Value) (sub:Fo):List Nat:=n::(leaf.blocks++aI ev++sub.fp)
def cA (w:World) (n:Nat) (pre:aa) (leaf:bl) (ev:Value) (sub:Fo):Prop:=
 w.heap[n]?=some (.cells #[leaf.val, .string pre,ev] 245 (0,0))/\leaf.at w/\w.ownsRow 0 250 2 ev sub.len sub.cells/\sub.At w
def Fo.edges:Fo->List (UInt8 × Nat)
 | .nil=> []
 | .cons lab n _ _ _ _ rest=>(lab,n)::rest.edges
theorem Fo.edges_cells (f:Fo):f.cells=bE f.edges:=by
 induction f with
 | nil=>rfl
 | cons=>simp [cells,edges,bE, *]
theorem Fo.edges_len (f:Fo):f.edges.length=f.len:=by
 induction f with
 | nil=>rfl
 | cons=>simp [len,edges, *]
theorem Fo.edges_labs (f:Fo):f.edges.map (·.1)=f.labs:=by
 induction f with
 | nil=>rfl
 | cons=>simp [labs,edges, *]
def Fo.upd:Fo->UInt8->Nat->aa->bl->Value->Fo->Fo
 | .nil,_,_,_,_,_,_=> .nil
 | .cons lab n pre leaf ev sub rest,c,n',pre',leaf',ev',sub'=>if lab=c then .cons lab n' pre' leaf' ev' sub' rest else .cons lab n pre leaf ev sub (rest.upd c n' pre' leaf' ev' sub')
def Fo.ins:Fo->UInt8->Nat->aa->bl->Value->Fo->Fo
 | .nil,c,n',pre',leaf',ev',sub'=> .cons c n' pre' leaf' ev' sub' .nil
 | .cons lab n pre leaf ev sub rest,c,n',pre',leaf',ev',sub'=>if c.toNat<lab.toNat then .cons c n' pre' leaf' ev' sub' (.cons lab n pre leaf ev sub rest) else .cons lab n pre leaf ev sub (rest.ins c n' pre' leaf' ev' sub')
theorem Fo.WF.mono {m m':Nat} (hm:m<=m') {f:Fo} (h:f.WF m):f.WF m':=by
 induction f with
 | nil=>trivial
 | cons lab n pre leaf ev sub rest ih1 ih2=>
   obtain ⟨h1,h2,h3,h4,h5⟩:=h;exact ⟨h1,h2,by omega,ih1 h4,ih2 h5⟩
section
variable {c:UInt8} {n':Nat} {pre':aa} {leaf':bl} {ev':Value} {sub':Fo}
theorem Fo.upd_edges {f:Fo} (hs:f.labs.Pairwise (fun a b=>a.toNat<b.toNat)):(f.upd c n' pre' leaf' ev' sub').edges=f.edges.map (fun p=>if p.1=c then (c,n') else p):=by
 induction f with
 | nil=>rfl
 | cons lab n pre leaf ev sub rest ih1 ih2=>
   simp only [labs,List.pairwise_cons] at hs;simp only [upd,edges,List.map_cons];by_cases h:lab=c
   · subst h;rw [if_pos rfl,if_pos rfl];simp only [edges];congr 1
     have:∀p∈rest.edges,(if p.1=lab then (lab,n') else p)=p:=by
      intro p hp;have h1:p.1∈rest.labs:=by rw [<-edges_labs];exact List.mem_map_of_mem hp
      have:=hs.1 p.1 h1;rw [if_neg (by intro e;rw [e] at this;omega)]
     rw [List.map_congr_left this,List.map_id']
   rw [if_neg h,if_neg h];simp only [edges];rw [ih2 hs.2]
theorem Fo.upd_len (f:Fo):(f.upd c n' pre' leaf' ev' sub').len=f.len:=by
 induction f with
 | nil=>rfl
 | cons lab n pre leaf ev sub rest ih1 ih2=>
   simp only [upd];split<;>simp [len, *]
theorem Fo.upd_labs (f:Fo):(f.upd c n' pre' leaf' ev' sub').labs=f.labs:=by
 induction f with
 | nil=>rfl
 | cons lab n pre leaf ev sub rest ih1 ih2=>
   simp only [upd];split<;>simp [labs, *]
theorem Fo.upd_WF {m m':Nat} {f:Fo} (hm:m<=m') (h:f.WF m) (h1:pre'.data.toList.head?=some c) (h2:pre'.size<=1000000) (h3:sub'.len<=m') (h4:sub'.WF m'):(f.upd c n' pre' leaf' ev' sub').WF m':=by
 induction f with
 | nil=>trivial
 | cons lab n pre leaf ev sub rest ih1 ih2=>
   obtain ⟨g1,g2,g3,g4,g5⟩:=h;simp only [upd];split
   · rename_i hc;subst hc;exact ⟨⟨h1,h2⟩,g2,h3,h4,g5.mono hm⟩
   exact ⟨g1,by rw [upd_labs];exact g2,by omega,g4.mono hm,ih2 g5⟩
theorem Fo.ins_labs_mem {f:Fo} {l:UInt8}:l∈(f.ins c n' pre' leaf' ev' sub').labs↔l=c\/l∈f.labs:=by
 induction f with
 | nil=>simp [ins,labs]
 | cons lab n pre leaf ev sub rest ih1 ih2=>
   simp only [ins];split
   · simp [labs]
   simp only [labs,List.mem_cons,ih2];exact ⟨fun h=>by rcases h with h|h|h<;>simp [h],fun h=>by rcases h with h|h|h<;>simp [h]⟩
theorem Fo.ins_len (f:Fo):(f.ins c n' pre' leaf' ev' sub').len=f.len+1:=by
 induction f with
 | nil=>rfl
 | cons lab n pre leaf ev sub rest ih1 ih2=>
   simp only [ins];split<;>simp [len, *]
theorem Fo.ins_edges (f:Fo):(f.ins c n' pre' leaf' ev' sub').edges.Perm (f.edges++ [(c,n')]):=by
 induction f with
 | nil=>exact List.Perm.refl _
 | cons lab n pre leaf ev sub rest ih1 ih2=>
   simp only [ins];split
   · simp only [edges];exact (List.perm_append_singleton _ _).symm
   simp only [edges,List.cons_append];exact List.Perm.cons _ ih2
theorem Fo.ins_WF {m m':Nat} {f:Fo} (hm:m<=m') (h:f.WF m) (hc:c∉f.labs) (h1:pre'.data.toList.head?=some c) (h2:pre'.size<=1000000) (h3:sub'.len<=m') (h4:sub'.WF m'):(f.ins c n' pre' leaf' ev' sub').WF m':=by
 induction f with
 | nil=>exact ⟨⟨h1,h2⟩,by simp [labs],h3,h4,trivial⟩
 | cons lab n pre leaf ev sub rest ih1 ih2=>
   obtain ⟨g1,g2,g3,g4,g5⟩:=h;simp only [labs,List.mem_cons,not_or] at hc;simp only [ins];split
   · rename_i hlt;refine ⟨⟨h1,h2⟩,fun l hl=> ?_,h3,h4,g1,g2,by omega,g4.mono hm,g5.mono hm⟩;simp only [labs,List.mem_cons] at hl;rcases hl with rfl|hl
     · exact hlt
     have:=g2 l hl;omega
   rename_i hlt;refine ⟨g1,fun l hl=> ?_,by omega,g4.mono hm,ih2 g5 hc.2⟩;rw [ins_labs_mem] at hl;rcases hl with rfl|hl
   · have:l.toNat≠lab.toNat:=fun e=>hc.1 (UInt8.toNat_inj.1 e)
     omega
   exact g2 l hl
theorem tu {l k:List (UInt8 × Nat)} (hp:l.Perm k) (hl:l.Pairwise ql) (hk:k.Pairwise ql):l=k:=
 hp.eq_of_pairwise (fun a b _ _ h1 h2=>by unfold ql at h1 h2;omega) hl hk
theorem Fo.edges_sorted {m:Nat} {f:Fo} (h:f.WF m):f.edges.Pairwise ql:=by
 have:=Fo.labs_sorted h;rw [<-edges_labs,List.pairwise_map] at this;exact this
theorem Fo.edge_fp {f:Fo} {k:Nat} (h:f.find c=some k):∃pre leaf ev sub A B,f.fp=A++bF k leaf ev sub++B/\(∀n' pre' leaf' ev' sub',(f.upd c n' pre' leaf' ev' sub').fp=A++bF n' leaf' ev' sub'++B)/\
 (∀w,f.At w->cA w k pre leaf ev sub)/\(∀m,f.WF m->sub.WF m/\sub.len<=m/\pre.data.toList.head?=some c/\pre.size<=1000000)/\
 (∀w w' n' pre' leaf' ev' sub',f.At w->(∀b∈A++B,w'.heap[b]?=w.heap[b]?)->cA w' n' pre' leaf' ev' sub'->(f.upd c n' pre' leaf' ev' sub').At w')/\
 (∀m,f.WF m->∀p:Bytes,p.head?=some c->f.get p=if pre.data.toList<+:p then bZ leaf sub (p.drop pre.data.toList.length) else none)/\
 (∀m,f.WF m->∀n' pre' leaf' ev' sub',pre'.data.toList.head?=some c->∀p:Bytes,(f.upd c n' pre' leaf' ev' sub').get p=if p.head?=some c then (if pre'.data.toList<+:p then bZ leaf' sub' (p.drop pre'.data.toList.length) else none) else f.get p):=by
 have hnone:∀(g:Fo) (p:Bytes) (m:Nat),g.WF m->(∀l∈g.labs,p.head?≠some l)->g.get p=none:=by
  intro g
  induction g with
  | nil=>intro p m _ _;rfl
  | cons lab n pre leaf ev sub rest ih1 ih2=>
    intro p m hW hl;simp only [get];rw [if_neg,ih2 p m hW.2.2.2.2 (fun l h=>hl l (by simp [labs,h]))];intro hpre;have h1:=hW.1.1;obtain ⟨t,ht⟩:=hpre;apply hl lab (by simp [labs]);rw [<-ht]
    cases hq:pre.data.toList with
    | nil=>rw [hq] at h1;cases h1
    | cons a q=>rw [hq] at h1;exact h1
 have hhead:∀(pre:aa) (c:UInt8) (p:Bytes),pre.data.toList.head?=some c->pre.data.toList<+:p->p.head?=some c:=by
  intro pre c p h1 h2;obtain ⟨t,ht⟩:=h2;rw [<-ht]
  cases hq:pre.data.toList with
  | nil=>rw [hq] at h1;cases h1
  | cons a q=>rw [hq] at h1;exact h1
 induction f with
 | nil=>simp [find] at h
 | cons lab n pre leaf ev sub rest ih1 ih2=>
   simp only [find] at h;split at h
   · rename_i hc;injection h with h
     subst hc h;refine ⟨pre,leaf,ev,sub, [],rest.fp,by simp [fp,bF],fun _ _ _ _ _=>by simp [upd,fp,bF],fun w hA=>⟨hA.1,hA.2.1,hA.2.2.1,hA.2.2.2.1⟩,fun m hW=>⟨hW.2.2.2.1,hW.2.2.1,hW.1.1,hW.1.2⟩, ?_, ?_, ?_⟩
     · intro w w' n' pre' leaf' ev' sub' hA hk hN;simp only [upd,if_pos];exact ⟨hN.1,hN.2.1,hN.2.2.1,hN.2.2.2,Fo.keep hA.2.2.2.2 (fun b hb=>hk b (by simpa using hb))⟩
     · intro m hW p hp;simp only [get];split
       · rfl
       exact hnone rest p m hW.2.2.2.2 (fun l hl=>by rw [hp];intro e;injection e with e;have:=hW.2.1 l hl;rw [e] at this;omega)
     intro m hW n' pre' leaf' ev' sub' hh p;simp only [upd,if_pos,get];by_cases hp:p.head?=some lab
     · rw [if_pos hp];split
       · rfl
       exact hnone rest p m hW.2.2.2.2 (fun l hl=>by rw [hp];intro e;injection e with e;have:=hW.2.1 l hl;rw [e] at this;omega)
     rw [if_neg hp,if_neg (fun e=>hp (hhead pre' lab p hh e)),if_neg (fun e=>hp (hhead pre lab p hW.1.1 e))]
   rename_i hc;obtain ⟨aP,leaf1,ev1,bC,A,B,e1,e2,e3,e4,e5,e6,e7⟩:=ih2 h;refine ⟨aP,leaf1,ev1,bC,bF n leaf ev sub++A,B,by simp [fp,bF,e1],fun _ _ _ _ _=>by simp [upd,if_neg hc,fp,bF,e2],fun w hA=>e3 w hA.2.2.2.2,fun m hW=>e4 m hW.2.2.2.2, ?_, ?_, ?_⟩
   · intro w w' n' pre' leaf' ev' sub' hA hk hN;simp only [upd,if_neg hc];obtain ⟨a1,a2,a3,a4,a5⟩:=hA;refine ⟨by rw [hk n (by simp [bF])];exact a1,bl.keep (l:=leaf) a2 fun b hb=>hk b (by simp [bF,hb]),kM a3 fun b hb=>hk b (by simp [bF,hb]),Fo.keep a4 fun b hb=>hk b (by simp [bF,hb]),e5 w w' _ _ _ _ _ a5 (fun b hb=>hk b (by simp only [List.mem_append] at hb ⊢;rcases hb with hb|hb;exact .inl (.inr hb);exact .inr hb)) hN⟩
   · intro m hW p hp;simp only [get];rw [if_neg (fun e=>by have:=hhead pre lab p hW.1.1 e;rw [hp] at this;injection this with this;exact hc this.symm)];exact e6 m hW.2.2.2.2 p hp
   intro m hW n' pre' leaf' ev' sub' hh p;simp only [upd,if_neg hc,get];by_cases hp:p.head?=some c
   · rw [if_neg (fun e=>by have:=hhead pre lab p hW.1.1 e;rw [hp] at this;injection this with this;exact hc this.symm),e7 m hW.2.2.2.2 _ _ _ _ _ hh p];simp only [if_pos hp]
   rw [e7 m hW.2.2.2.2 _ _ _ _ _ hh p,if_neg hp,if_neg hp]
theorem Fo.ins_spec {m:Nat} {f:Fo} (hW:f.WF m) (hc:f.find c=none) (hh:pre'.data.toList.head?=some c):
 (∃A B,f.fp=A++B/\(f.ins c n' pre' leaf' ev' sub').fp=A++bF n' leaf' ev' sub'++B)/\
 (∀w,f.At w->cA w n' pre' leaf' ev' sub'->(f.ins c n' pre' leaf' ev' sub').At w)/\
 (∀p:Bytes,p.head?=some c->f.get p=none)/\
 (∀p:Bytes,(f.ins c n' pre' leaf' ev' sub').get p=if p.head?=some c then (if pre'.data.toList<+:p then bZ leaf' sub' (p.drop pre'.data.toList.length) else none) else f.get p):=by
 have hhead:∀(pre:aa) (c:UInt8) (p:Bytes),pre.data.toList.head?=some c->pre.data.toList<+:p->p.head?=some c:=by
  intro pre c p h1 h2;obtain ⟨t,ht⟩:=h2;rw [<-ht]
  cases hq:pre.data.toList with
  | nil=>rw [hq] at h1;cases h1
  | cons a q=>rw [hq] at h1;exact h1
 induction f with
 | nil=>
   refine ⟨⟨[], [],rfl,by simp [ins,fp,bF]⟩,fun w _ hN=>⟨hN.1,hN.2.1,hN.2.2.1,hN.2.2.2,trivial⟩,fun _ _=>rfl,fun p=> ?_⟩;simp only [ins,get];by_cases hp:p.head?=some c
   · rw [if_pos hp];rfl
   rw [if_neg hp,if_neg (fun e=>hp (hhead pre' c p hh e))]
 | cons lab n pre leaf ev sub rest ih1 ih2=>
   simp only [find] at hc;split at hc
   · cases hc
   rename_i hne;obtain ⟨⟨A,B,i1,i2⟩,i3,i4,i5⟩:=ih2 hW.2.2.2.2 hc
   have Ox:∀p:Bytes,p.head?=some c->¬pre.data.toList<+:p:=fun p hp e=>by
    have:=hhead pre lab p hW.1.1 e;rw [hp] at this;injection this with this
    exact hne this.symm
   simp only [ins];split
   · refine ⟨⟨[],_,rfl,by simp [fp,bF]⟩,fun w hA hN=>⟨hN.1,hN.2.1,hN.2.2.1,hN.2.2.2,hA⟩,fun p hp=> ?_,fun p=> ?_⟩
     · simp only [get];rw [if_neg (Ox p hp)];exact i4 p hp
     simp only [get];by_cases hp:p.head?=some c
     · rw [if_pos hp,if_neg (Ox p hp),i4 p hp];rfl
     rw [if_neg hp,if_neg (fun e=>hp (hhead pre' c p hh e))]
   refine ⟨⟨bF n leaf ev sub++A,B,by simp [fp,bF,i1],by simp [fp,bF,i2]⟩,fun w hA hN=>⟨hA.1,hA.2.1,hA.2.2.1,hA.2.2.2.1,i3 w hA.2.2.2.2 hN⟩,fun p hp=> ?_,fun p=> ?_⟩
   · simp only [get];rw [if_neg (Ox p hp)];exact i4 p hp
   simp only [get];rw [i5 p];by_cases hp:p.head?=some c
   · simp only [if_pos hp];rw [if_neg (Ox p hp)]
   simp only [if_neg hp]
end
def gK (w:World) (tb m:Nat) (s:aa) (v:Value) (k:Nat) (pre:aa) (leaf:bl) (ev:Value) (sub:Fo) (r:Bytes) (W:World):Prop:=
 ∃leaf' ev' sub',cA W k pre leaf' ev' sub'/\(bF k leaf' ev' sub').Nodup/\(∀b∈bF k leaf' ev' sub',b∈bF k leaf ev sub\/w.heap.size<=b)/\
  (∀b,b<w.heap.size->b∉bF k leaf ev sub->b≠tb->W.heap[b]?=w.heap[b]?)/\sub'.WF (m+1)/\sub'.len<=m+1/\∀p,bZ leaf' sub' p=if p=r then some (s,v) else bZ leaf sub p
theorem mv {sz:Nat} {X O N Y:List Nat} (h:(X++O++Y).Nodup) (hn:N.Nodup) (h1:∀b∈N,b∈O\/sz<=b) (h2:∀b∈X++Y,b<sz):(X++N++Y).Nodup:=by
 simp only [List.nodup_append,List.mem_append] at h ⊢;obtain ⟨⟨hX,hO,hXO⟩,hY,hXY⟩:=h;refine ⟨⟨hX,hn,fun a ha b hb e=> ?_⟩,hY,fun a ha b hb e=> ?_⟩
 · subst e;rcases h1 a hb with h|h
   · exact hXO a ha a h rfl
   have:=h2 a (by simp [ha]);omega
 subst e;rcases ha with ha|ha
 · exact hXY a (.inl ha) a hb rfl
 rcases h1 a ha with h|h
 · exact hXY a (.inr h) a hb rfl
 have:=h2 a (by simp [hb]);omega
theorem cA.lt {w:World} {n:Nat} {pre:aa} {leaf:bl} {ev:Value} {sub:Fo} (h:cA w n pre leaf ev sub):∀b∈bF n leaf ev sub,b<w.heap.size:=by
 intro b hb;have:=Fo.lt (f:= .cons 0 n pre leaf ev sub .nil) (w:=w) ⟨h.1,h.2.1,h.2.2.1,h.2.2.2,trivial⟩ b (by simp only [Fo.fp];simp only [bF] at hb;simp at hb ⊢;exact hb);exact this
theorem cA.keep {w w':World} {n:Nat} {pre:aa} {leaf:bl} {ev:Value} {sub:Fo} (h:cA w n pre leaf ev sub) (hk:∀b∈bF n leaf ev sub,w'.heap[b]?=w.heap[b]?):cA w' n pre leaf ev sub:=by
 obtain ⟨a1,a2,a3,a4⟩:=h;exact ⟨by rw [hk n (by simp [bF])];exact a1,bl.keep (l:=leaf) a2 fun b hb=>hk b (by simp [bF,hb]),kM a3 fun b hb=>hk b (by simp [bF,hb]),Fo.keep a4 fun b hb=>hk b (by simp [bF,hb])⟩
theorem aS {v:Value} {b:Nat}:b∈aI v↔v.ownBlock=some b:=by
 unfold aI
 cases v.ownBlock with
 | none=>simp
 | some c=>simp [eq_comm]
theorem Fo.find_edge {m:Nat} {f:Fo} (hW:f.WF m) {c:UInt8} {x:Nat} (h:(c,x)∈f.edges):f.find c=some x:=by
 induction f with
 | nil=>simp [edges] at h
 | cons lab n pre leaf ev sub rest ih1 ih2=>
   simp only [edges,List.mem_cons] at h;simp only [find];rcases h with h|h
   · injection h with h1 h2
     subst h1 h2;rw [if_pos rfl]
   rw [if_neg,ih2 hW.2.2.2.2 h];intro e;subst e;have h1:lab∈rest.labs:=by rw [<-edges_labs];exact List.mem_map_of_mem (f:=Prod.fst) h
   have:=hW.2.1 lab h1;omega
theorem gK.edge {w W:World} {tb m:Nat} {s:aa} {v:Value} {k:Nat} {pre:aa} {leaf:bl} {ev:Value} {sub:Fo} {r:Bytes} {c:UInt8} {ch:Nat} {aP:aa} {leaf1:bl} {ev1:Value} {bC:Fo} {A B:List Nat}
 (hN:cA w k pre leaf ev sub) (hW:sub.WF m) (hlen:sub.len<=m) (hnd:(bF k leaf ev sub).Nodup) (tz:tb∉bF k leaf ev sub)
 (e1:sub.fp=A++bF ch leaf1 ev1 bC++B) (e2:∀n' pre' leaf' ev' sub',(sub.upd c n' pre' leaf' ev' sub').fp=A++bF n' leaf' ev' sub'++B)
 (e5:∀w w' n' pre' leaf' ev' sub',sub.At w->(∀b∈A++B,w'.heap[b]?=w.heap[b]?)->cA w' n' pre' leaf' ev' sub'->(sub.upd c n' pre' leaf' ev' sub').At w')
 (e6:∀p:Bytes,p.head?=some c->sub.get p=if aP.data.toList<+:p then bZ leaf1 bC (p.drop aP.data.toList.length) else none)
 (e7:∀n' pre' leaf' ev' sub',pre'.data.toList.head?=some c->∀p:Bytes,(sub.upd c n' pre' leaf' ev' sub').get p=if p.head?=some c then (if pre'.data.toList<+:p then bZ leaf' sub' (p.drop pre'.data.toList.length) else none) else sub.get p)
 {n':Nat} {pre':aa} {leaf':bl} {ev':Value} {sub':Fo}
 (g1:cA W n' pre' leaf' ev' sub') (g2:(bF n' leaf' ev' sub').Nodup) (g3:∀b∈bF n' leaf' ev' sub',b∈bF ch leaf1 ev1 bC\/w.heap.size<=b)
 (g4:∀b,b<w.heap.size->b∉bF ch leaf1 ev1 bC->b≠tb->ev.ownBlock≠some b->W.heap[b]?=w.heap[b]?)
 (g5:W.ownsRow 0 250 2 ev sub.len (bE (sub.edges.map fun p=>if p.1=c then (c,n') else p)))
 (g6:pre'.data.toList.head?=some c) (g7:pre'.size<=1000000) (g8:sub'.WF (m+1)) (g9:sub'.len<=m+1) (hr:r.head?=some c)
 (g10:∀p:Bytes,p.head?=some c->(if pre'.data.toList<+:p then bZ leaf' sub' (p.drop pre'.data.toList.length) else none)=if p=r then some (s,v) else (if aP.data.toList<+:p then bZ leaf1 bC (p.drop aP.data.toList.length) else none)):
 gK w tb m s v k pre leaf ev sub r W:=by
 have hlt:=hN.lt;have xI:bF k leaf ev sub=(k::(leaf.blocks++aI ev)++A)++bF ch leaf1 ev1 bC++B:=by simp [bF,e1]
 have QE:bF k leaf ev (sub.upd c n' pre' leaf' ev' sub')=(k::(leaf.blocks++aI ev)++A)++bF n' leaf' ev' sub'++B:=by simp [bF,e2]
 have uD:∀b∈(k::leaf.blocks)++A++B,W.heap[b]?=w.heap[b]?:=by
  intro b hb
  have Dq:b∈bF k leaf ev sub:=by
   rw [xI];simp only [List.mem_append,List.mem_cons] at hb ⊢;rcases hb with ((hb|hb)|hb)|hb<;>simp [hb]
  have hnd':=hnd;rw [xI] at hnd';refine g4 b (hlt b Dq) ?_ (fun e=>tz (e▸Dq)) ?_
  · intro hc
    have hb1:b∈(k::(leaf.blocks++aI ev)++A)\/b∈B:=by
     simp only [List.mem_append,List.mem_cons] at hb ⊢;rcases hb with ((hb|hb)|hb)|hb
     · exact .inl (.inl (.inl hb))
     · exact .inl (.inl (.inr (.inl hb)))
     · exact .inl (.inr hb)
     exact .inr hb
    rw [List.nodup_append,List.nodup_append] at hnd';rcases hb1 with hb1|hb1
    · exact hnd'.1.2.2 b hb1 b hc rfl
    exact hnd'.2.2 b (List.mem_append_right _ hc) b hb1 rfl
  intro hc;have hc':=aS.2 hc
  have hperm:((k::(leaf.blocks++aI ev)++A)++bF ch leaf1 ev1 bC++B).Perm (aI ev++(((k::leaf.blocks)++A)++bF ch leaf1 ev1 bC++B)):=by
   rw [show (k::(leaf.blocks++aI ev)++A)++bF ch leaf1 ev1 bC++B=(k::leaf.blocks)++(aI ev++(A++bF ch leaf1 ev1 bC++B)) by simp];refine (List.perm_append_comm_assoc _ _ _).trans ?_;rw [show (k::leaf.blocks)++(A++bF ch leaf1 ev1 bC++B)=((k::leaf.blocks)++A)++bF ch leaf1 ev1 bC++B by simp]
  have QF:=hperm.nodup_iff.1 hnd';rw [List.nodup_append] at QF;refine QF.2.2 b hc' b ?_ rfl;simp only [List.mem_append] at hb ⊢;rcases hb with (hb|hb)|hb
  · exact .inl (.inl (.inl hb))
  · exact .inl (.inl (.inr hb))
  exact .inr hb
 refine ⟨leaf,ev,sub.upd c n' pre' leaf' ev' sub',⟨?_, ?_, ?_, ?_⟩, ?_, ?_, ?_, ?_, ?_, ?_⟩
 · rw [uD k (by simp)];exact hN.1
 · exact bl.keep (l:=leaf) hN.2.1 fun b hb=>uD b (by simp [hb])
 · rw [Fo.upd_len,Fo.edges_cells,Fo.upd_edges (Fo.labs_sorted hW)];exact g5
 · exact e5 w W _ _ _ _ _ hN.2.2.2 (fun b hb=>uD b (by simp only [List.mem_append] at hb ⊢;rcases hb with hb|hb<;>simp [hb])) g1
 · rw [QE];rw [xI] at hnd hlt;exact mv (sz:=w.heap.size) hnd g2 g3 fun b hb=>hlt b ((List.mem_append.1 hb).elim (fun h=>List.mem_append_left _ (List.mem_append_left _ h)) (fun h=>List.mem_append_right _ h))
 · intro b hb;rw [QE] at hb;rw [xI];simp only [List.mem_append] at hb ⊢;rcases hb with (hb|hb)|hb
   · exact .inl (.inl (.inl hb))
   · rcases g3 b hb with h|h
     · exact .inl (.inl (.inr h))
     exact .inr h
   exact .inl (.inr hb)
 · intro b hb yJ mJ;refine g4 b hb (fun h=>yJ ?_) mJ (fun h=>yJ ?_)
   · rw [xI];simp [h]
   rw [xI];simp [aS.2 h]
 · exact Fo.upd_WF (Nat.le_succ m) hW g6 g7 g9 g8
 · rw [Fo.upd_len];omega
 intro p;have Mg:r≠ []:=by intro e;rw [e] at hr;cases hr
 by_cases hp0:p= []
 · subst hp0;simp only [bZ,if_pos];rw [if_neg (Ne.symm Mg)]
 have hg:∀x:Fo,bZ leaf x p=x.get p:=fun x=>by simp [bZ,hp0]
 rw [hg,hg,e7 _ _ _ _ _ g6 p];by_cases hp:p.head?=some c
 · rw [if_pos hp,g10 p hp,e6 p hp]
 rw [if_neg hp,if_neg (fun e=>hp (by rw [e];exact hr))]
theorem gK.up {w W:World} {tb m:Nat} {s:aa} {v:Value} {k:Nat} {pre:aa} {leaf:bl} {ev:Value} {sub:Fo} {r:Bytes} {c:UInt8} {ch:Nat} {aP:aa} {leaf1:bl} {ev1:Value} {bC:Fo} {A B:List Nat}
 (hN:cA w k pre leaf ev sub) (hW:sub.WF m) (hlen:sub.len<=m) (hnd:(bF k leaf ev sub).Nodup) (tz:tb∉bF k leaf ev sub) (hf:sub.find c=some ch)
 (e1:sub.fp=A++bF ch leaf1 ev1 bC++B) (e2:∀n' pre' leaf' ev' sub',(sub.upd c n' pre' leaf' ev' sub').fp=A++bF n' leaf' ev' sub'++B)
 (e4:aP.data.toList.head?=some c/\aP.size<=1000000)
 (e5:∀w w' n' pre' leaf' ev' sub',sub.At w->(∀b∈A++B,w'.heap[b]?=w.heap[b]?)->cA w' n' pre' leaf' ev' sub'->(sub.upd c n' pre' leaf' ev' sub').At w')
 (e6:∀p:Bytes,p.head?=some c->sub.get p=if aP.data.toList<+:p then bZ leaf1 bC (p.drop aP.data.toList.length) else none)
 (e7:∀n' pre' leaf' ev' sub',pre'.data.toList.head?=some c->∀p:Bytes,(sub.upd c n' pre' leaf' ev' sub').get p=if p.head?=some c then (if pre'.data.toList<+:p then bZ leaf' sub' (p.drop pre'.data.toList.length) else none) else sub.get p)
 (hr:r.head?=some c) (hpre:aP.data.toList<+:r) (h:gK w tb m s v ch aP leaf1 ev1 bC (r.drop aP.data.toList.length) W):gK w tb m s v k pre leaf ev sub r W:=by
 obtain ⟨leaf',ev',sub',g1,g2,g3,g4,g8,g9,g10⟩:=h;have xI:bF k leaf ev sub=(k::(leaf.blocks++aI ev)++A)++bF ch leaf1 ev1 bC++B:=by simp [bF,e1]
 refine gK.edge hN hW hlen hnd tz e1 e2 e5 e6 e7 g1 g2 g3 (fun b h1 h2 h3 _=>g4 b h1 h2 h3) ?_ e4.1 e4.2 g8 g9 hr ?_
 · have he:sub.edges.map (fun p=>if p.1=c then (c,ch) else p)=sub.edges:=by
    have:∀p∈sub.edges,(if p.1=c then (c,ch) else p)=p:=by
     intro p hp;obtain ⟨l,x⟩:=p;by_cases hl:l=c
     · subst hl;have:=Fo.find_edge hW hp;rw [hf] at this;injection this with this
       simp [this]
     rw [if_neg hl]
    rw [List.map_congr_left this,List.map_id']
   rw [he,<-Fo.edges_cells];refine bD hN.2.2.1 fun b hb=> ?_
   have hb':=aS.2 hb;have Dq:b∈bF k leaf ev sub:=by simp [bF,hb']
   refine g4 b (hN.lt b Dq) (fun hc=> ?_) (fun e=>tz (e▸Dq));rw [xI] at hnd;simp only [List.cons_append,List.nodup_cons,List.nodup_append,List.mem_append] at hnd;exact hnd.2.1.2.2 b (.inl (.inr hb')) b hc rfl
 intro p hp;by_cases vG:aP.data.toList<+:p
 · rw [if_pos vG,if_pos vG,g10]
   have:(p.drop aP.data.toList.length=r.drop aP.data.toList.length)↔p=r:=by
    constructor
    · intro e;obtain ⟨t,ht⟩:=vG;obtain ⟨u,hu⟩:=hpre;rw [<-ht,<-hu] at e ⊢;rw [List.drop_left,List.drop_left] at e;rw [e]
    intro e;rw [e]
   by_cases h:p=r
   · rw [if_pos (this.2 h),if_pos h]
   rw [if_neg (fun e=>h (this.1 e)),if_neg h]
 rw [if_neg vG,if_neg vG,if_neg (fun e=>vG (by rw [e];exact hpre))]
theorem gK.leaf {w W:World} {tb m:Nat} {s:aa} {v:Value} {k:Nat} {pre:aa} {leaf:bl} {ev:Value} {sub:Fo} {lb:Nat}
 (hN:cA w k pre leaf ev sub) (hW:sub.WF m) (hlen:sub.len<=m) (hnd:(bF k leaf ev sub).Nodup) (tz:tb∉bF k leaf ev sub)
 (hl:(∃v0,leaf=some (lb,s,v0))\/(leaf=none/\w.heap.size<=lb))
 (h1:W.heap[k]?=some (.cells #[.pointer (some ⟨lb,0,none⟩), .string pre,ev] 245 (0,0))) (h2:W.heap[lb]?=some (.cells #[.string s,v] 248 (0,0)))
 (h3:∀b,b<w.heap.size->b≠k->b≠lb->b≠tb->W.heap[b]?=w.heap[b]?):gK w tb m s v k pre leaf ev sub [] W:=by
 have hlt:=hN.lt
 have hlb:(leaf.blocks= [lb])\/(leaf.blocks= []/\w.heap.size<=lb):=by
  rcases hl with ⟨v0,rfl⟩|⟨rfl,h⟩
  · exact .inl rfl
  exact .inr ⟨rfl,h⟩
 have kN:∀b∈aI ev++sub.fp,W.heap[b]?=w.heap[b]?:=by
  intro b hb
  have Dq:b∈bF k leaf ev sub:=by
   simp only [List.mem_append] at hb;simp only [bF,List.mem_cons,List.mem_append];rcases hb with hb|hb<;>simp [hb]
  simp only [bF,List.append_assoc,List.nodup_cons,List.nodup_append] at hnd;refine h3 b (hlt b Dq) (fun e=> ?_) (fun e=> ?_) (fun e=>tz (e▸Dq))
  · subst e;exact hnd.1 (List.mem_append_right _ hb)
  subst e;rcases hlb with h|⟨_,h⟩
  · exact hnd.2.2.2 b (by simp [h]) b hb rfl
  have:=hlt b Dq;omega
 refine ⟨some (lb,s,v),ev,sub,⟨h1,h2,kM hN.2.2.1 fun b hb=>kN b (by simp [hb]),Fo.keep hN.2.2.2 fun b hb=>kN b (by simp [hb])⟩, ?_, ?_, ?_,hW.mono (Nat.le_succ m),by omega, ?_⟩
 · rcases hlb with h|⟨h,hsz⟩
   · simp only [bF,h] at hnd;exact hnd
   simp only [bF,h,List.nil_append] at hnd;simp only [bF,bl.blocks,List.cons_append,List.nil_append];rw [List.nodup_cons] at hnd;simp only [List.nodup_cons,List.mem_cons,not_or];have hk:=hlt k (by simp [bF]);refine ⟨⟨by omega,hnd.1⟩,fun hc=> ?_,hnd.2⟩;have:=hlt lb (by simp only [bF,h,List.nil_append,List.mem_cons];exact .inr hc);omega
 · intro b hb;simp only [bF,bl.blocks,List.mem_cons,List.mem_append,List.cons_append,List.nil_append] at hb;rcases hb with rfl|rfl|hb
   · left;simp [bF]
   · rcases hlb with h|⟨_,h⟩
     · left;simp [bF,h]
     right;exact h
   left;simp only [bF,List.mem_cons,List.mem_append];rcases hb with hb|hb<;>simp [hb]
 · intro b hb yJ mJ;refine h3 b hb (fun e=>yJ (by simp [bF,e])) (fun e=> ?_) mJ;subst e;rcases hlb with h|⟨_,h⟩
   · exact yJ (by simp [bF,h])
   omega
 intro p;simp only [bZ];by_cases hp:p= []
 · rw [if_pos hp,if_pos hp];rfl
 rw [if_neg hp,if_neg hp,if_neg hp]
theorem gK.ins {w W:World} {tb m:Nat} {s:aa} {v:Value} {k:Nat} {pre:aa} {leaf:bl} {ev:Value} {sub:Fo} {r:aa} {c:UInt8} {lb nb:Nat} {l':List (UInt8 × Nat)} {ev':Value}
 (hN:cA w k pre leaf ev sub) (hW:sub.WF m) (hlen:sub.len<=m) (hnd:(bF k leaf ev sub).Nodup) (tz:tb∉bF k leaf ev sub) (hf:sub.find c=none) (hr:r.data.toList.head?=some c) (hrs:r.size<=1000000)
 (hlb:w.heap.size<=lb) (hnb:w.heap.size<=nb) (hne:lb≠nb) (hp:l'.Perm (sub.edges++ [(c,nb)])) (hs:l'.Pairwise ql)
 (h1:W.heap[k]?=some (.cells #[leaf.val, .string pre,ev'] 245 (0,0))) (h2:W.heap[lb]?=some (.cells #[.string s,v] 248 (0,0))) (h3:W.heap[nb]?=some (.cells #[.pointer (some ⟨lb,0,none⟩), .string r, .slice none 0 0] 245 (0,0)))
 (h4:W.ownsRow 0 250 2 ev' l'.length (bE l')) (h5:∀b,ev'.ownBlock=some b->ev.ownBlock=some b\/(w.heap.size<=b/\b≠lb/\b≠nb))
 (h6:∀b,b<w.heap.size->b≠k->b≠tb->ev.ownBlock≠some b->W.heap[b]?=w.heap[b]?):gK w tb m s v k pre leaf ev sub r.data.toList W:=by
 have hlt:=hN.lt;obtain ⟨⟨A,B,i1,i2⟩,i3,i4,i5⟩:=Fo.ins_spec (n':=nb) (pre':=r) (leaf':=some (lb,s,v)) (ev':= .slice none 0 0) (sub':= .nil) hW hf hr;have E8:=hnd;simp only [bF,List.nodup_cons,List.nodup_append,List.mem_append,not_or] at E8
 have kN:∀b∈leaf.blocks++sub.fp,W.heap[b]?=w.heap[b]?:=by
  intro b hb;simp only [List.mem_append] at hb
  have Dq:b∈bF k leaf ev sub:=by
   simp only [bF,List.mem_cons,List.mem_append];rcases hb with hb|hb<;>simp [hb]
  refine h6 b (hlt b Dq) (fun e=> ?_) (fun e=>tz (e▸Dq)) (fun e=> ?_)
  · subst e;rcases hb with hb|hb
    · exact E8.1.1.1 hb
    exact E8.1.2 hb
  have e':=aS.2 e;rcases hb with hb|hb
  · exact E8.2.1.2.2 b hb b e' rfl
  exact E8.2.2.2 b (.inr e') b hb rfl
 have hsub:(sub.ins c nb r (some (lb,s,v)) (.slice none 0 0) .nil).At W:=by
  refine i3 W (Fo.keep hN.2.2.2 fun b hb=>kN b (by simp [hb])) ⟨h3,h2,World.ownsRow_nil _ _ _ _,trivial⟩
 have hwf:(sub.ins c nb r (some (lb,s,v)) (.slice none 0 0) .nil).WF (m+1):=Fo.ins_WF (Nat.le_succ m) hW (Fo.find_none.1 hf) hr hrs (by simp [Fo.len]) trivial;have zS:l'=(sub.ins c nb r (some (lb,s,v)) (.slice none 0 0) .nil).edges:=tu (hp.trans (Fo.ins_edges sub).symm) hs (Fo.edges_sorted hwf);refine ⟨leaf,ev',_,⟨h1,bl.keep (l:=leaf) hN.2.1 fun b hb=>kN b (by simp [hb]), ?_,hsub⟩, ?_, ?_, ?_,hwf,by rw [Fo.ins_len];omega, ?_⟩
 · rw [<-Fo.edges_len,Fo.edges_cells,<-zS];exact h4
 ·
  have E9:(aI ev'++bF nb (some (lb,s,v)) (.slice none 0 0) .nil).Nodup:=by
   have e0:bF nb (some (lb,s,v)) (.slice none 0 0) .nil= [nb,lb]:=rfl;rw [e0]
   cases he:ev'.ownBlock with
   | none=>
     have:aI ev'= []:=by simp [aI,he]
     rw [this]
     simp [Ne.symm hne]
   | some b=>
     have hb1:aI ev'= [b]:=by simp [aI,he]
     have:b≠lb/\b≠nb:=by
      rcases h5 b he with h|h
      · have:=hlt b (by simp [bF,aS.2 h]);omega
      exact h.2
     rw [hb1];simp [Ne.symm hne,this.1,this.2]
  have uA:(k::leaf.blocks++A++B++aI ev).Nodup:=by
   have:(bF k leaf ev sub).Perm (k::leaf.blocks++A++B++aI ev):=by
    rw [bF,i1];simp only [List.cons_append,List.append_assoc];refine List.Perm.cons _ (List.Perm.append_left _ ?_);refine List.perm_append_comm.trans ?_;simp only [List.append_assoc];exact List.Perm.refl _
   exact this.nodup_iff.1 hnd
  have:=mv (sz:=w.heap.size) (X:=k::leaf.blocks++A++B) (O:=aI ev) (N:=aI ev'++bF nb (some (lb,s,v)) (.slice none 0 0) .nil) (Y:= []) (by simpa using uA) E9 (by
   intro b hb;simp only [List.mem_append] at hb;rcases hb with hb|hb
   · rcases h5 b (aS.1 hb) with h|h
     · exact .inl (aS.2 h)
     exact .inr h.1
   · simp only [bF,bl.blocks,aI,Value.ownBlock,Fo.fp,List.append_nil,List.mem_cons,List.not_mem_nil,or_false] at hb;rcases hb with rfl|rfl
     · exact .inr hnb
     exact .inr hlb) (by
   intro b hb;refine hlt b ?_;simp only [bF,i1];simp only [List.append_nil,List.mem_append,List.mem_cons] at hb ⊢;rcases hb with ((hb|hb)|hb)|hb<;>simp [hb])
  have hperm:(bF k leaf ev' (sub.ins c nb r (some (lb,s,v)) (.slice none 0 0) .nil)).Perm (k::leaf.blocks++A++B++(aI ev'++bF nb (some (lb,s,v)) (.slice none 0 0) .nil)++ []):=by
   rw [bF,i2];simp only [List.cons_append,List.append_assoc,List.append_nil];refine List.Perm.cons _ (List.Perm.append_left _ ?_);refine (List.perm_append_comm_assoc _ _ _).trans (List.Perm.append_left _ ?_);refine ((List.Perm.append_left _ List.perm_append_comm)).trans ?_;exact List.perm_append_comm_assoc _ _ _
  exact hperm.nodup_iff.2 this
 · intro b hb;simp only [bF,i2,List.mem_cons,List.mem_append] at hb;rcases hb with hb|(hb|hb)|(hb|hb)|hb
   · left;simp [bF,hb]
   · left;simp [bF,hb]
   · rcases h5 b (aS.1 hb) with h|h
     · left;simp [bF,aS.2 h]
     exact .inr h.1
   · left;simp [bF,i1,hb]
   · simp only [bl.blocks,aI,Value.ownBlock,Fo.fp,List.not_mem_nil,or_false,List.mem_cons] at hb;rcases hb with rfl|rfl
     · exact .inr hnb
     exact .inr hlb
   left;simp [bF,i1,hb]
 · intro b hb yJ mJ;exact h6 b hb (fun e=>yJ (by simp [bF,e])) mJ (fun e=>yJ (by simp [bF,aS.2 e]))
 intro p;have Mg:r.data.toList≠ []:=by intro e;rw [e] at hr;cases hr
 by_cases hp0:p= []
 · subst hp0;simp only [bZ,if_pos];rw [if_neg (Ne.symm Mg)]
 have hg:∀x:Fo,bZ leaf x p=x.get p:=fun x=>by simp [bZ,hp0]
 rw [hg,hg,i5 p];by_cases hpc:p.head?=some c
 · rw [if_pos hpc,i4 p hpc];by_cases wC:p=r.data.toList
   · subst wC;simp [bZ,bl.get]
   rw [if_neg wC];split
   · rename_i hpre;obtain ⟨t,ht⟩:=hpre;rw [<-ht,List.drop_left];have:t≠ []:=by intro e;subst e;simp at ht;exact wC ht.symm
     simp [bZ,this,Fo.get]
   rfl
 rw [if_neg hpc,if_neg (fun e=>hpc (by rw [e];exact hr))]
theorem zT (l:List (UInt8 × Nat)) (i:Nat) (p:UInt8 × Nat) (n:Nat) (h:l[i]?=some p):(bE l).set (i*2+1) (.pointer (some ⟨n,0,none⟩))=bE (l.set i (p.1,n)):=by
 induction l generalizing i with
 | nil=>simp at h
 | cons q l ih=>
   cases i with
   | zero=>simp at h;subst h;simp [bE]
   | succ i=>
     have:=ih i (by simpa using h);rw [show (i+1)*2+1=i*2+1+1+1 by omega];simpa [bE] using this
theorem II {l:List (UInt8 × Nat)} (hs:l.Pairwise ql) (i:Nat) (c:UInt8) (x n:Nat) (h:l[i]?=some (c,x)):l.set i (c,n)=l.map fun p=>if p.1=c then (c,n) else p:=by
 induction l generalizing i with
 | nil=>simp at h
 | cons q l ih=>
   rw [List.pairwise_cons] at hs
   cases i with
   | zero=>
     simp at h;subst h;simp only [List.set_cons_zero,List.map_cons,if_pos];congr 1
     have:∀p∈l,(if p.1=c then (c,n) else p)=p:=by
      intro p hp;have:=hs.1 p hp;rw [if_neg (by intro e;unfold ql at this;rw [e] at this;simp at this)]
     rw [List.map_congr_left this,List.map_id']
   | succ i=>
     have hm:(c,x)∈l:=List.mem_of_getElem? (by simpa using h);have:=hs.1 _ hm;simp only [List.set_cons_succ,List.map_cons];rw [ih hs.2 i (by simpa using h),if_neg (by intro e;unfold ql at this;rw [e] at this;simp at this)]
theorem Fo.child_edges {f:Fo} {i:Nat}:f.child i=f.edges[i]?:=by
 induction f generalizing i with
 | nil=>simp [child,edges]
 | cons lab n pre leaf ev sub rest ih1 ih2=>
   cases i with
   | zero=>simp [child,edges]
   | succ i=>simp [child,edges,ih2]
theorem f119 (n:Nat) (leaf:bl) (pre:aa) (ev:Value) (sub:Fo) (c:UInt8) (old nw:Nat) (m:Nat) (w:World) (h:w.heap[n]?=some (.cells #[leaf.val, .string pre,ev] 245 (0,0))) (hr:w.ownsRow 0 250 2 ev sub.len sub.cells)
 (hw:sub.WF m) (hm:sub.len<=1000) (hf:sub.find c=some old):
 Calls Tryz.prog 119 #[.pointer (some ⟨n,0,none⟩), .int .u8 c.toNat, .pointer (some ⟨nw,0,none⟩)] w fun e w'=>e= .returned (.tuple #[])/\w'.ownsRow 0 250 2 ev sub.len (bE (sub.edges.map fun p=>if p.1=c then (c,nw) else p))/\w.grownBy w' ev.ownBlock:=by
 have hbW:Below w.heap.size w ((w.alloc (.cells #[.pointer (some ⟨n,0,none⟩)] 239)).alloc (.cells #[.int .u8 c.toNat] 5)):=((Below.refl _ _).alloc (Nat.le_refl _) _).alloc (by simp) _;have hW:=ax h hbW;have Qv:=cG hr hbW;have Wz:=cellAt (j:=0) (ax (heap_alloc_new w (.cells #[.pointer (some ⟨n,0,none⟩)] 239)) ((Below.refl _ _).alloc (Nat.le_refl _) (.cells #[.int .u8 c.toNat] 5))) rfl;have Qw:=cellAt (j:=0) (heap_alloc_new (w.alloc (.cells #[.pointer (some ⟨n,0,none⟩)] 239)) (.cells #[.int .u8 c.toNat] 5)) rfl;simp only [World.size_alloc] at Qw;obtain ⟨A,cap,hev⟩:∃A cap,ev= .slice A sub.len cap:=rf hr;subst hev;have hlen:sub.len<=9223372036854775807:=by omega
 have hc:=cellAt (j:=2) h rfl;have hcW:=cellAt (j:=2) hW rfl;have HS:=Y0 (Bv hw c);have HM:=Y0 (rb hw c);have Ow:=Y0 hw;have HB:=Y0 hbW;have HW:=Y0 hW;have HR:=Y0 Qv;have HF:=Y0 hf;clear hbW hW Qv h hr hw hf;go_enter func119,ntmps119;go_wp2_with (go_at_call 141;refine (E5 sub.len (gS sub c) _ _ _ (by omega) HM.out (fun i q hi=>f145 i n _ _ leaf pre (.slice A sub.len cap) sub c _ (by exact HW.out) (by exact HR.out) hi (by exact Wz) (by exact Qw) (by omega))).mono ?_;rintro e w1 ⟨r,rfl,hr1,hr2,hr3,q,rfl⟩);obtain ⟨s1,s2⟩:=HS.out r hr1 hr2 hr3
 have hlt:r<sub.len:=by
  rcases Nat.lt_or_ge r sub.len with h|h
  · exact h
  have:=s2 (by omega);rw [HF.out] at this;cases this
 clear s2 hr2 hr3;obtain ⟨g,cap',lab,ch,he,hch,hl,e1,e2⟩:=qj HR.out hlt;simp only [Value.slice.injEq] at he;obtain ⟨rfl,-,rfl⟩:=he
 have hlc:lab=c/\ch=old:=by
  have:=s1 lab ch hch;rw [HF.out] at this;split at this
  · rename_i h;injection this with this;exact ⟨h,this.symm⟩
  cases this
 obtain ⟨rfl,rfl⟩:=hlc;have hst:=Y0 (HR.out.stored (r*2+1) (.pointer (some ⟨nw,0,none⟩)));have hfz:=World.ownsRow.frozenAt HR.out (r*2+1);have HCh:=Y0 hch;clear hch hl s1;have hlt':(r:Int)<(sub.len:Int):=by omega
 go_wp2;go_quiet (fail);go_wp2
 (try simp only [Exit.inBlock,Exit.then]);refine bodyPost_ret (results_none rfl _ _ _) rfl ?_
 obtain ⟨t1,t2⟩:=hst.out;refine ⟨rfl, ?_, ?_⟩
 · have he:=HCh.out;rw [Fo.child_edges] at he;rw [Fo.edges_cells,zT _ r _ nw he,II (Fo.edges_sorted Ow.out) r lab ch nw he] at t1;exact bD t1 (fun _ _=>rfl)
 refine ⟨HB.out.os,HB.out.tape,HB.out.output,by simpa using HB.out.size,fun b hb hne=> ?_⟩;have h1:=HB.out.block b hb;have h2:=t2.block b (Nat.lt_of_lt_of_le hb HB.out.size) (by simpa [Value.ownBlock] using hne);exact h2.trans h1
theorem zU (a b:Bytes):b=a.take (comm a b)++b.drop (comm a b)/\(a.take (comm a b)).length=comm a b/\(a.drop (comm a b)= []\/b.drop (comm a b)= []\/∃x y S' D',a.drop (comm a b)=x::S'/\b.drop (comm a b)=y::D'/\x≠y):=by
 induction a generalizing b with
 | nil=>simp [comm]
 | cons x a ih=>
   cases b with
   | nil=>simp [comm]
   | cons y b=>
     by_cases h:x=y
     · subst h;obtain ⟨h1,h2,h3⟩:=ih b;simp only [comm,if_pos,List.take_succ_cons,List.drop_succ_cons,List.cons_append,List.length_cons,List.cons.injEq,true_and];exact ⟨h1,by omega,h3⟩
     simp only [comm,if_neg h,List.take_zero,List.drop_zero,List.nil_append,List.length_nil,true_and];exact .inr (.inr ⟨x,y,a,b,rfl,rfl,h⟩)
theorem tB {m:Nat} {leaf1:bl} {ev1:Value} {bC:Fo} {lab2:UInt8} {ch:Nat} {gw:aa} (h1:bC.WF m) (h2:bC.len<=m) (h3:gw.data.toList.head?=some lab2) (h4:gw.size<=1000000):
 (Fo.cons lab2 ch gw leaf1 ev1 bC .nil).WF (m+1)/\(Fo.cons lab2 ch gw leaf1 ev1 bC .nil).len=1:=
 ⟨⟨⟨h3,h4⟩,by simp [Fo.labs],by omega,h1.mono (Nat.le_succ m),trivial⟩,rfl⟩
theorem iB (Q D t:Bytes):Q++D<+:Q++t↔D<+:t:=by
 constructor
 · rintro ⟨u,hu⟩;rw [List.append_assoc] at hu;exact ⟨u,List.append_cancel_left hu⟩
 rintro ⟨u,hu⟩;exact ⟨u,by rw [List.append_assoc,hu]⟩
theorem Bz {leaf1:bl} {ev1:Value} {bC:Fo} {lab2:UInt8} {ch:Nat} {gw:aa} (t:Bytes):
 (Fo.cons lab2 ch gw leaf1 ev1 bC .nil).get t=if gw.data.toList<+:t then bZ leaf1 bC (t.drop gw.data.toList.length) else none:=rfl
theorem zV {leaf1:bl} {ev1:Value} {bC:Fo} {lab2:UInt8} {ch lb:Nat} {s:aa} {v:Value} {oC gw aP:aa} {R:Bytes} (hP:aP.data.toList=oC.data.toList++gw.data.toList) (hR:R=oC.data.toList) (hD:gw.data.toList≠ []) (p:Bytes):
 (if oC.data.toList<+:p then bZ (some (lb,s,v)) (.cons lab2 ch gw leaf1 ev1 bC .nil) (p.drop oC.data.toList.length) else none)=if p=R then some (s,v) else (if aP.data.toList<+:p then bZ leaf1 bC (p.drop aP.data.toList.length) else none):=by
 subst hR;by_cases hp:oC.data.toList<+:p
 · obtain ⟨t,rfl⟩:=hp;rw [if_pos (List.prefix_append _ _),List.drop_left,hP];by_cases ht:t= []
   · subst ht;rw [List.append_nil,if_pos rfl];rfl
   rw [if_neg (by intro e;exact ht (List.append_right_eq_self.1 e))];have hg:bZ (some (lb,s,v)) (.cons lab2 ch gw leaf1 ev1 bC .nil) t=(Fo.cons lab2 ch gw leaf1 ev1 bC .nil).get t:=by simp [bZ,ht]
   rw [hg,Bz];by_cases h:gw.data.toList<+:t
   · rw [if_pos h,if_pos ((iB _ _ _).2 h),List.length_append,<-List.drop_drop,List.drop_left]
   rw [if_neg h,if_neg (fun e=>h ((iB _ _ _).1 e))]
 rw [if_neg hp,if_neg (fun e=>hp (by rw [e];exact List.prefix_refl _)),if_neg (fun e=>hp (by rw [hP] at e;exact (List.prefix_append _ _).trans e))]
theorem zW {m:Nat} {leaf1:bl} {ev1:Value} {bC:Fo} {lab2 lab3:UInt8} {ch lb nb:Nat} {s:aa} {v:Value} {oC gw aP S:aa} {R:Bytes} (hWF:(Fo.cons lab2 ch gw leaf1 ev1 bC .nil).WF m) (hP:aP.data.toList=oC.data.toList++gw.data.toList) (hR:R=oC.data.toList++S.data.toList)
 (hD:gw.data.toList.head?=some lab2) (hS:S.data.toList.head?=some lab3) (hne:lab3≠lab2) (p:Bytes):
 (if oC.data.toList<+:p then bZ none ((Fo.cons lab2 ch gw leaf1 ev1 bC .nil).ins lab3 nb S (some (lb,s,v)) (.slice none 0 0) .nil) (p.drop oC.data.toList.length) else none)=if p=R then some (s,v) else (if aP.data.toList<+:p then bZ leaf1 bC (p.drop aP.data.toList.length) else none):=by
 subst hR;have hf:(Fo.cons lab2 ch gw leaf1 ev1 bC .nil).find lab3=none:=by simp [Fo.find,Ne.symm hne]
 have hsp:=(Fo.ins_spec (n':=nb) (pre':=S) (leaf':=some (lb,s,v)) (ev':= .slice none 0 0) (sub':= .nil) hWF hf hS).2.2.2;have Mh:gw.data.toList≠ []:=fun e=>by rw [e] at hD;cases hD
 have WD:S.data.toList≠ []:=fun e=>by rw [e] at hS;cases hS
 have hhead:∀(x t:Bytes) (c:UInt8),x.head?=some c->x<+:t->t.head?=some c:=by
  intro x t c h1 h2;obtain ⟨u,rfl⟩:=h2
  cases x with
  | nil=>cases h1
  | cons a x=>exact h1
 by_cases hp:oC.data.toList<+:p
 · obtain ⟨t,rfl⟩:=hp;rw [if_pos (List.prefix_append _ _),List.drop_left,hP];by_cases ht:t= []
   · subst ht
     rw [List.append_nil,if_neg (by intro e;exact WD (List.append_right_eq_self.1 e.symm)),if_neg (by
      intro e;have:=e.length_le;rw [List.length_append] at this;exact Mh (List.eq_nil_of_length_eq_zero (by omega)))]
     rfl
   have hg:bZ none ((Fo.cons lab2 ch gw leaf1 ev1 bC .nil).ins lab3 nb S (some (lb,s,v)) (.slice none 0 0) .nil) t=((Fo.cons lab2 ch gw leaf1 ev1 bC .nil).ins lab3 nb S (some (lb,s,v)) (.slice none 0 0) .nil).get t:=by simp [bZ,ht]
   have heq:(oC.data.toList++t=oC.data.toList++S.data.toList)↔t=S.data.toList:=⟨fun e=>List.append_cancel_left e,fun e=>by rw [e]⟩;rw [hg,hsp t];by_cases hc:t.head?=some lab3
   · rw [if_pos hc]
     have hnD:¬gw.data.toList<+:t:=fun e=>by
      have:=hhead _ _ _ hD e;rw [hc] at this;injection this with this
      exact hne this
     rw [if_neg (fun e=>hnD ((iB _ _ _).1 e))];by_cases hts:t=S.data.toList
     · subst hts;rw [if_pos rfl,if_pos (List.prefix_refl _)];simp [bZ,bl.get]
     rw [if_neg (fun e=>hts (heq.1 e))];split
     · rename_i h;obtain ⟨u,rfl⟩:=h;rw [List.drop_left];have:u≠ []:=fun e=>hts (by rw [e,List.append_nil])
       simp [bZ,this,Fo.get]
     rfl
   rw [if_neg hc,if_neg (fun e=>hc (by rw [heq.1 e];exact hS)),Bz];by_cases h:gw.data.toList<+:t
   · rw [if_pos h,if_pos ((iB _ _ _).2 h),List.length_append,<-List.drop_drop,List.drop_left]
   rw [if_neg h,if_neg (fun e=>h ((iB _ _ _).1 e))]
 rw [if_neg hp,if_neg (fun e=>hp (by rw [e];exact List.prefix_append _ _)),if_neg (fun e=>hp (by rw [hP] at e;exact (List.prefix_append _ _).trans e))]
section
variable {w W:World} {tb m:Nat} {s:aa} {v:Value} {k:Nat} {pre:aa} {leaf:bl} {ev:Value} {sub:Fo} {r:Bytes} {c:UInt8} {ch:Nat} {aP:aa} {leaf1:bl} {ev1:Value} {bC:Fo} {A B:List Nat}
theorem oD (hnd:(bF k leaf ev sub).Nodup) (tz:tb∉bF k leaf ev sub) (e1:sub.fp=A++bF ch leaf1 ev1 bC++B):(bF ch leaf1 ev1 bC).Nodup/\∀b∈bF ch leaf1 ev1 bC,b≠tb/\ev.ownBlock≠some b:=by
 have hm:∀b∈bF ch leaf1 ev1 bC,b∈sub.fp:=fun b hb=>by rw [e1];exact List.mem_append_left _ (List.mem_append_right _ hb)
 have hnd':=hnd;rw [bF,List.nodup_cons,List.nodup_append] at hnd;refine ⟨?_,fun b hb=>⟨fun e=>tz ?_,fun e=>hnd.2.2.2 b (List.mem_append_right _ (aS.2 e)) b (hm b hb) rfl⟩⟩
 · have:=hnd.2.2.1;rw [e1,List.nodup_append,List.nodup_append] at this;exact this.1.2.1
 subst e;rw [bF];exact List.mem_cons_of_mem _ (List.mem_append_right _ (hm b hb))
theorem tC (hnd:(bF k leaf ev sub).Nodup) (tz:tb∉bF k leaf ev sub) (e1:sub.fp=A++bF ch leaf1 ev1 bC++B) (hN:cA w ch aP leaf1 ev1 bC) {lab2:UInt8} {D:aa}
 (kp:∀b,b<w.heap.size->b≠tb->b≠ch->ev.ownBlock≠some b->W.heap[b]?=w.heap[b]?) (hch:W.heap[ch]?=some (.cells #[leaf1.val, .string D,ev1] 245 (0,0))):
 (Fo.cons lab2 ch D leaf1 ev1 bC .nil).At W:=by
 obtain ⟨h1,h2⟩:=oD hnd tz e1
 have hk:∀b∈leaf1.blocks++aI ev1++bC.fp,W.heap[b]?=w.heap[b]?:=by
  intro b hb;have hb':b∈bF ch leaf1 ev1 bC:=List.mem_cons_of_mem _ hb;refine kp b (hN.lt b hb') (h2 b hb').1 (fun e=> ?_) (h2 b hb').2;subst e;rw [bF,List.nodup_cons] at h1;exact h1.1 hb
 exact ⟨hch,bl.keep (l:=leaf1) hN.2.1 fun b hb=>hk b (by simp [hb]),kM hN.2.2.1 fun b hb=>hk b (by simp [hb]),Fo.keep hN.2.2.2 fun b hb=>hk b (by simp [hb]),trivial⟩
variable (hN:cA w k pre leaf ev sub) (hW:sub.WF m) (hlen:sub.len<=m) (hnd:(bF k leaf ev sub).Nodup) (tz:tb∉bF k leaf ev sub)
 (E9:cA w ch aP leaf1 ev1 bC) (hW1:bC.WF m) (lZ:bC.len<=m)
 (e1:sub.fp=A++bF ch leaf1 ev1 bC++B) (e2:∀n' pre' leaf' ev' sub',(sub.upd c n' pre' leaf' ev' sub').fp=A++bF n' leaf' ev' sub'++B)
 (e5:∀w w' n' pre' leaf' ev' sub',sub.At w->(∀b∈A++B,w'.heap[b]?=w.heap[b]?)->cA w' n' pre' leaf' ev' sub'->(sub.upd c n' pre' leaf' ev' sub').At w')
 (e6:∀p:Bytes,p.head?=some c->sub.get p=if aP.data.toList<+:p then bZ leaf1 bC (p.drop aP.data.toList.length) else none)
 (e7:∀n' pre' leaf' ev' sub',pre'.data.toList.head?=some c->∀p:Bytes,(sub.upd c n' pre' leaf' ev' sub').get p=if p.head?=some c then (if pre'.data.toList<+:p then bZ leaf' sub' (p.drop pre'.data.toList.length) else none) else sub.get p)
 {Q D S:aa} {lab2:UInt8} {cb lb nb:Nat} {evC:Value}
 (kp:∀b,b<w.heap.size->b≠tb->b≠ch->ev.ownBlock≠some b->W.heap[b]?=w.heap[b]?) (hch:W.heap[ch]?=some (.cells #[leaf1.val, .string D,ev1] 245 (0,0)))
 (hrow:W.ownsRow 0 250 2 ev sub.len (bE (sub.edges.map fun p=>if p.1=c then (c,cb) else p)))
 (hlb:W.heap[lb]?=some (.cells #[.string s,v] 248 (0,0))) (Mi:w.heap.size<=cb) (IJ:w.heap.size<=lb) (hne:lb≠cb)
 (hQ:Q.data.toList.head?=some c) (Dr:Q.size<=1000000) (hD:D.data.toList.head?=some lab2) (Ds:D.size<=1000000) (hP:aP.data.toList=Q.data.toList++D.data.toList) (hr:r.head?=some c)
include hN hW hlen hnd tz E9 hW1 lZ e1 e2 e5 e6 e7 kp hch hrow hlb Mi IJ hne hQ Dr hD Ds hP hr
theorem gK.split1 (hR:r=Q.data.toList) (hcb:W.heap[cb]?=some (.cells #[.pointer (some ⟨lb,0,none⟩), .string Q,evC] 245 (0,0))) (hrc:W.ownsRow 0 250 2 evC 1 (bE [(lab2,ch)]))
 (hev:∀b,evC.ownBlock=some b->w.heap.size<=b/\b≠cb/\b≠lb):gK w tb m s v k pre leaf ev sub r W:=by
 obtain ⟨n1,n2⟩:=oD hnd tz e1;have hX:=tC (lab2:=lab2) hnd tz e1 E9 kp hch;obtain ⟨x1,x2⟩:=tB (leaf1:=leaf1) (ev1:=ev1) (ch:=ch) hW1 lZ hD Ds;have Mh:D.data.toList≠ []:=fun e=>by rw [e] at hD;cases hD
 have xI:bF cb (some (lb,s,v)) evC (.cons lab2 ch D leaf1 ev1 bC .nil)=(cb::lb::aI evC)++bF ch leaf1 ev1 bC:=by simp [bF,bl.blocks,Fo.fp]
 refine gK.edge (n':=cb) (pre':=Q) (leaf':=some (lb,s,v)) (ev':=evC) (sub':= .cons lab2 ch D leaf1 ev1 bC .nil) hN hW hlen hnd tz e1 e2 e5 e6 e7 ⟨hcb,hlb,hrc,hX⟩ ?_ ?_ (fun b h1 h2 h3 h4=>kp b h1 h3 (fun e=>h2 (by simp [bF,e])) h4) hrow hQ Dr x1 (by omega) hr (fun p _=>zV hP hR Mh p)
 · rw [xI,List.nodup_append];refine ⟨?_,n1,fun a ha b hb e=> ?_⟩
   · unfold aI
     cases he:evC.ownBlock with
     | none=>simp [Ne.symm hne]
     | some b=>
       have:=hev b he;simp [Ne.symm hne,Ne.symm this.2.1,Ne.symm this.2.2]
   subst e;have hlt:=E9.lt a hb;simp only [List.mem_cons] at ha;rcases ha with rfl|rfl|ha
   · omega
   · omega
   have:=(hev a (aS.1 ha)).1;omega
 intro b hb;rw [xI] at hb;simp only [List.cons_append,List.mem_cons,List.mem_append] at hb;rcases hb with rfl|rfl|hb|hb
 · exact .inr Mi
 · exact .inr IJ
 · exact .inr (hev b (aS.1 hb)).1
 exact .inl hb
theorem gK.split2 {lab3:UInt8} {lC:List (UInt8 × Nat)} (hR:r=Q.data.toList++S.data.toList) (hS:S.data.toList.head?=some lab3) (hSs:S.size<=1000000) (QG:lab3≠lab2) (hcb:W.heap[cb]?=some (.cells #[.pointer none, .string Q,evC] 245 (0,0)))
 (hnb:W.heap[nb]?=some (.cells #[.pointer (some ⟨lb,0,none⟩), .string S, .slice none 0 0] 245 (0,0))) (hrc:W.ownsRow 0 250 2 evC lC.length (bE lC)) (hp:lC.Perm ([(lab2,ch)]++ [(lab3,nb)])) (hs:lC.Pairwise ql)
 (QH:w.heap.size<=nb) (qR:nb≠cb) (qw:nb≠lb) (hm:1<=m) (hev:∀b,evC.ownBlock=some b->w.heap.size<=b/\b≠cb/\b≠lb/\b≠nb):gK w tb m s v k pre leaf ev sub r W:=by
 obtain ⟨n1,n2⟩:=oD hnd tz e1;have hX:=tC (lab2:=lab2) hnd tz e1 E9 kp hch;obtain ⟨x1,x2⟩:=tB (leaf1:=leaf1) (ev1:=ev1) (ch:=ch) hW1 lZ hD Ds;have hf:(Fo.cons lab2 ch D leaf1 ev1 bC .nil).find lab3=none:=by simp [Fo.find,Ne.symm QG]
 obtain ⟨⟨A',B',i1,i2⟩,i3,_,_⟩:=Fo.ins_spec (n':=nb) (pre':=S) (leaf':=some (lb,s,v)) (ev':= .slice none 0 0) (sub':= .nil) x1 hf hS;have hY:=i3 W hX ⟨hnb,hlb,World.ownsRow_nil _ _ _ _,trivial⟩;have hYW:((Fo.cons lab2 ch D leaf1 ev1 bC .nil).ins lab3 nb S (some (lb,s,v)) (.slice none 0 0) .nil).WF (m+1):=Fo.ins_WF (Nat.le_refl _) x1 (Fo.find_none.1 hf) hS hSs (by simp [Fo.len]) trivial;have zS:lC=((Fo.cons lab2 ch D leaf1 ev1 bC .nil).ins lab3 nb S (some (lb,s,v)) (.slice none 0 0) .nil).edges:=tu (hp.trans (show ((Fo.cons lab2 ch D leaf1 ev1 bC .nil).edges++ [(lab3,nb)]).Perm _ from (Fo.ins_edges (c:=lab3) (n':=nb) (pre':=S) (leaf':=some (lb,s,v)) (ev':= .slice none 0 0) (sub':= .nil) (.cons lab2 ch D leaf1 ev1 bC .nil)).symm)) hs (Fo.edges_sorted hYW);have hfX:(Fo.cons lab2 ch D leaf1 ev1 bC .nil).fp=bF ch leaf1 ev1 bC:=by simp [bF,Fo.fp]
 rw [hfX] at i1;have Mj:=E9.lt
 have xI:bF cb none evC ((Fo.cons lab2 ch D leaf1 ev1 bC .nil).ins lab3 nb S (some (lb,s,v)) (.slice none 0 0) .nil)=(cb::aI evC)++(A'++ [nb,lb]++B'):=by
  rw [bF,i2];simp [bF,bl.blocks,aI,Value.ownBlock,Fo.fp]
 refine gK.edge (n':=cb) (pre':=Q) (leaf':=none) (ev':=evC) (sub':=(Fo.cons lab2 ch D leaf1 ev1 bC .nil).ins lab3 nb S (some (lb,s,v)) (.slice none 0 0) .nil) hN hW hlen hnd tz e1 e2 e5 e6 e7 ⟨hcb,trivial, ?_,hY⟩ ?_ ?_ (fun b h1 h2 h3 h4=>kp b h1 h3 (fun e=>h2 (by simp [bF,e])) h4) hrow hQ Dr hYW (by rw [Fo.ins_len,x2];omega) hr (fun p _=>zW x1 hP hR hD hS QG p)
 · rw [<-Fo.edges_len,Fo.edges_cells,<-zS];exact hrc
 · rw [xI,List.nodup_append];refine ⟨?_, ?_,fun a ha b hb e=> ?_⟩
   · unfold aI
     cases he:evC.ownBlock with
     | none=>simp
     | some b=>
       have:=hev b he;simp [Ne.symm this.2.1]
   · have hi:(A'++ []++B').Nodup:=by rw [List.append_nil,<-i1];exact n1
     refine mv (sz:=w.heap.size) hi (by simp [qw]) (fun b hb=> ?_) (fun b hb=>Mj b (by rw [i1];exact hb));simp only [List.mem_cons,List.not_mem_nil,or_false] at hb;rcases hb with rfl|rfl
     · exact .inr QH
     exact .inr IJ
   subst e
   have hb2:(a<w.heap.size)\/a=nb\/a=lb:=by
    simp only [List.mem_append,List.mem_cons,List.not_mem_nil,or_false] at hb;rcases hb with (hb|hb)|hb
    · exact .inl (Mj a (by rw [i1];exact List.mem_append_left _ hb))
    · exact .inr hb
    exact .inl (Mj a (by rw [i1];exact List.mem_append_right _ hb))
   simp only [List.mem_cons] at ha;rcases ha with rfl|ha
   · rcases hb2 with h|h|h
     · omega
     · exact qR h.symm
     exact hne h.symm
   have h5:=hev a (aS.1 ha);rcases hb2 with h|h|h
   · omega
   · exact h5.2.2.2 h
   exact h5.2.2.1 h
 intro b hb;rw [xI] at hb;simp only [List.cons_append,List.mem_cons,List.mem_append,List.not_mem_nil,or_false] at hb;rcases hb with rfl|hb|(hb|rfl|rfl)|hb
 · exact .inr Mi
 · exact .inr (hev b (aS.1 hb)).1
 · exact .inl (by rw [i1];exact List.mem_append_left _ hb)
 · exact .inr QH
 · exact .inr IJ
 exact .inl (by rw [i1];exact List.mem_append_right _ hb)
end
end Go.Proofs.YtjenhelmpcajfaaGreatDoor
