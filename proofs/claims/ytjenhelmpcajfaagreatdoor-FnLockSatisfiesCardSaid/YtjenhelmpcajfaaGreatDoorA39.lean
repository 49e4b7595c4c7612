/- needs and overrides that count -/
import Derived.Test.YtjenhelmpcajfaaGreatDoorA36
import Derived.Deep.RegionHeld3
import Derived.Deep.DeepCutAuto
set_option linter.all false
set_option maxRecDepth 20000
set_option maxHeartbeats 2000000
namespace Go.Proofs.YtjenhelmpcajfaaGreatDoor
open Go.Proofs.Tryz Go.RowKit
theorem f40 {β:Type} {f:β->Value} (A B:Option Addr) (n m c d:Nat) (mc mo:Nat) (LC LO:List (aa × β)) (w:World) (h1:ah f w mc LC) (h2:ah f w mo LO) (hn:n<=9223372036854775807) (hm:m<=9223372036854775807):
 Calls Tryz.prog 40 #[.agg #[.bool true, .slice A n c, .slice B m d, .map (some mc), .map (some mo)]] w fun e w'=>e= .returned (.bool (decide (n=0/\m=0/\LO.length=0/\LC.length=0)))/\Below w.heap.size w w':=by
 have hb:Below w.heap.size w (w.alloc (.cells #[.bool true, .slice A n c, .slice B m d, .map (some mc), .map (some mo)] 94)):=(Below.refl _ _).alloc (Nat.le_refl _) _;have H1:=Y0 (h1.pure hb);have H2:=Y0 (h2.pure hb);have HB:=Y0 hb;clear h1 h2 hb;generalize hlo:LO.length=lo;generalize hlc:LC.length=lc;have HL:=Y2 hlo hlc;clear hlo hlc;go_enter func40,ntmps40;by_cases n0:n=0
 · subst n0;by_cases m0:m=0
   · subst m0;by_cases o0:lo=0
     · subst o0;by_cases c0:lc=0
       · subst c0;have flag:True:=trivial
         go_wp2_with (first
          | (clear flag;refine ez (o:=⟨some 16,_,_,_,_,_⟩) rfl _ _ rfl _ _ underlying92 rfl H2.out ?_;rw [HL.out.1];have aj:True:=trivial;go_frame)
          | (clear aj;refine ez (o:=⟨some 20,_,_,_,_,_⟩) rfl _ _ rfl _ _ underlying92 rfl H1.out ?_;rw [HL.out.2];go_frame))
         go_ret;exact ⟨rfl,HB.out⟩
       have c1:(0:Int)<(lc:Int):=by omega
       have flag:True:=trivial
       go_wp2_with (first
        | (clear flag;refine ez (o:=⟨some 16,_,_,_,_,_⟩) rfl _ _ rfl _ _ underlying92 rfl H2.out ?_;rw [HL.out.1];have aj:True:=trivial;go_frame)
        | (clear aj;refine ez (o:=⟨some 20,_,_,_,_,_⟩) rfl _ _ rfl _ _ underlying92 rfl H1.out ?_;rw [HL.out.2];go_frame))
       go_ret;exact ⟨by first|rfl|exact aq (decide_eq_false (by omega)).symm,HB.out⟩
     have o1:(0:Int)<(lo:Int):=by omega
     go_wp2_with (refine ez (o:=⟨some 16,_,_,_,_,_⟩) rfl _ _ rfl _ _ underlying92 rfl H2.out ?_;rw [HL.out.1];go_frame);go_ret;exact ⟨by first|rfl|exact aq (decide_eq_false (by omega)).symm,HB.out⟩
   have m1:(0:Int)<(m:Int):=by omega
   go_wp2;go_ret;exact ⟨by first|rfl|exact aq (decide_eq_false (by omega)).symm,HB.out⟩
 have n1:(0:Int)<(n:Int):=by omega
 go_wp2;go_ret;exact ⟨by first|rfl|exact aq (decide_eq_false (by omega)).symm,HB.out⟩
theorem YI (w:World):Calls Tryz.prog 40 #[.agg #[.bool false, .slice none 0 0, .slice none 0 0, .map none, .map none]] w fun e w'=>e= .returned (.bool false)/\Below w.heap.size w w':=by
 have hb:Below w.heap.size w (w.alloc (.cells #[.bool false, .slice none 0 0, .slice none 0 0, .map none, .map none] 94)):=(Below.refl _ _).alloc (Nat.le_refl _) _;have HB:=Y0 hb;clear hb;go_enter func40,ntmps40;go_wp2;go_ret;exact ⟨rfl,HB.out⟩
theorem f22 {F G:Nat->Prop} (u v:Value) (xs ys:List aa) (w:World) (hX:bK F w u xs) (hY:bK G w v ys):
 Calls Tryz.prog 22 #[u,v] w fun e w'=>e= .returned (.bool (decide (xs=ys)))/\Below w.heap.size w w':=by
 obtain ⟨A,c,rfl⟩:=hX.form;obtain ⟨B,d,rfl⟩:=hY.form;obtain ⟨-,a1,a2⟩:=hX.bound;obtain ⟨-,b1,b2⟩:=hY.bound;have HX:=Y0 hX;have HY:=Y0 hY;clear hX hY;go_enter func22,ntmps22;by_cases hl:xs.length=ys.length
 · have hl2:(xs.length:Int)=(ys.length:Int):=by omega
   have HLn:=Y0 hl;clear hl;generalize hyl:ys.length=n at*;go_wp2;go_loopw [13] (fun i wr=>∃k:Nat,i= .int .i64 k/\k<=n/\Hid (Below w.heap.size w wr/\xs.take k=ys.take k)) (fun i _=>n - (intOf i).toNat)
   case atStart=>exact ⟨0,rfl,by omega,Y0 ⟨Below.refl _ _,rfl⟩⟩
   obtain ⟨k,rfl,hk,hc⟩:=hrel;by_cases hlt:k<n
   · have hlt':(k:Int)<(n:Int):=by omega
     have hkx:k<xs.length:=by have:=HLn.out;omega
     have YJ:k<ys.length:=by omega
     obtain ⟨g,off,rfl,-,hg,hc1⟩:=(HX.out.pure hc.out.1).at1 hkx;obtain ⟨g2,mh,rfl,-,hg2,hc2⟩:=(HY.out.pure hc.out.1).at1 YJ;have qT:=Y0 (show xs[k]=ys[k]->xs.take (k+1)=ys.take (k+1) from fun e=>by rw [List.take_succ_eq_append_getElem hkx,List.take_succ_eq_append_getElem YJ,hc.out.2,e]);have hno:=Y0 (show xs[k]≠ys[k]->xs≠ys from fun e e2=>by subst e2;exact e rfl);generalize xs[k]=x at*;generalize ys[k]=y at*;clear hkx YJ;cases he:(x.toList==y.toList)
     · have hxy:x≠y:=by rwa [bS,decide_eq_false_iff_not] at he
       have YK:=Y0 hxy;clear hxy;go_wp2;go_quiet (fail);go_wp2;go_ret;exact ⟨aq (decide_eq_false (hno.out YK.out)).symm,aY hc.out.1⟩
     have hxy:x=y:=by rwa [bS,decide_eq_true_eq] at he
     have YK:=Y0 hxy;clear hxy;go_wp2;go_quiet (fail);go_wp2;exact ⟨⟨k+1,by go_num,by omega,Y0 ⟨aY hc.out.1,qT.out YK.out⟩⟩,by simp [intOf];omega⟩
   have hlt':¬(k:Int)<(n:Int):=by omega
   have hk2:k=n:=by omega
   have hall:Hid (xs=ys):=Y0 (by
    have h:=hc.out.2
    rwa [List.take_of_length_le (by have:=HLn.out;omega),List.take_of_length_le (by omega)] at h)
   subst hk2;go_wp2;go_ret;exact ⟨aq (decide_eq_true hall.out).symm,hc.out.1⟩
 have hl2:¬(xs.length:Int)=(ys.length:Int):=by omega
 have hne:Hid (xs≠ys):=Y0 fun e=>hl (by rw [e])
 clear hl;go_wp2;go_ret;exact ⟨aq (decide_eq_false hne.out).symm,Below.refl _ _⟩
theorem bJ {P:Program} {o:Oper} {ev:Operand->Value} {w:World} (ty:TypeId) (x:Operand) (ho:o.op= .load ty x) (g:Nat) (hx:ev x= .pointer (some ⟨g,0,none⟩)) (t:TypeId) (cs:Array Value) (fr:Nat × Nat) (d:TypeDesc)
 (hg:w.heap[g]?=some (.cells cs t fr)) (hu:P.underlying ty=some d) (hd:(match d with| .struct _| .array _ _=>true|_=>false)=true) (hi:(P.info? ty).map (·.size)=some cs.size):(execOp ev o).run P w= .ok (.value (.agg cs)) w:=by
 unfold execOp;simp only [ho,hx,Instr.loadAt,Instr.sureAddr,Sem.run_bind,Sem.run_pure,Result.andThen_ok,run_loadVar_row w g t ty cs fr d hg hu hd hi]
theorem rT {P:Program} {ops:Array Oper} {o:Oper} {a:Act} {w:World} {K:Act->World->Prop} {Q:Exit->Act->World->Prop} {E:Prop} {t:TypeId} {cs old:Array Value} (hgd:o.guard=none) (x y:Operand) (ho:o.op= .store t x y) (g:Nat) (hx:a.eval x= .pointer (some ⟨g,0,none⟩)) (hy:a.eval y= .agg cs)
 (hc:av w g old t) (hi:(P.info? t).map (·.size)=some cs.size) (hold:old.size=cs.size) (h1:cs.all (·.oneCell')=true)
 (h:∀W,Hid (av W g cs t/\W.heap.size=w.heap.size/\(∀k,k≠g->W.heap[k]?=w.heap[k]?)/\Below g w W)->K (a.put o.dst undef) W):if Region.wanted o (yielded ops a.tmps)=true then Oper.wp P o a w K Q else E:=by
 have hw:Region.wanted o (yielded ops a.tmps)=true:=by simp [Region.wanted,hgd]
 rw [if_pos hw];exact wp_store_row t x y ho g cs hx hy t old hc hi hold h1 (h _ (Y0 ⟨setRow_heap _ _ _ _ _ _ hc,by simp,fun k hk=>setRow_other _ _ _ _ hk,below_setRow (Below.refl _ _) (Nat.le_refl _) _⟩))
structure Fl (z:Array Value) (t:TypeId) (w1:World) (p:Nat) (W:World):Prop where
 row:av W p z t
 lo:w1.heap.size<=p
theorem Fl.pure {z:Array Value} {t:TypeId} {w1 W W':World} {p:Nat} (h:Fl z t w1 p W) (hb:Below W.heap.size W W'):Fl z t w1 p W':=⟨(hb.block _ (Array.getElem?_eq_some_iff.1 h.row).1).trans h.row,h.lo⟩
theorem Fl.new {z:Array Value} {t:TypeId} {w1 W:World} (h:Below w1.heap.size w1 W):Fl z t w1 W.heap.size (W.alloc (.cells z t)):=⟨heap_alloc_new _ _,h.size⟩
theorem mF (w:World) (o:Obj):Below w.heap.size w (w.alloc o):=(Below.refl _ _).alloc (Nat.le_refl _) _
theorem NI {w1 W:World} (_:Below w1.heap.size w1 W) (o:Obj):Below W.heap.size W (W.alloc o):=mF W o
theorem uW (k:IntKind) (i:Int):(Value.int k i).oneCell'=true:=rfl
theorem BS (s:aa):(Value.string s).oneCell'=true:=rfl
theorem oP (A:Option Addr) (m c:Nat):(Value.slice A m c).oneCell'=true:=rfl
theorem kY (b:Bool):(Value.bool b).oneCell'=true:=rfl
theorem BU (m:Option Nat):(Value.map m).oneCell'=true:=rfl
end Go.Proofs.YtjenhelmpcajfaaGreatDoor
