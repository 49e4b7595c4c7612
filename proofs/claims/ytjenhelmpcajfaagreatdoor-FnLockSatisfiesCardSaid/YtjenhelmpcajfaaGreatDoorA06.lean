/- numbers are read; the package's variables -/
import Derived.Shelf.LaysM
import Derived.Shelf.Strconv.Itoa0
import Derived.Shelf.Strconv.Itoa1
import Derived.Shelf.Strconv.Itoa2
import Derived.Shelf.Strconv.SyntaxError
import Derived.Shelf.Strconv.RangeError
import Derived.Shelf.Strconv.ParseUint10
import Derived.Shelf.Strconv.ParseUint10b64
import Derived.Test.YtjenhelmpcajfaaGreatDoorProg
import Derived.Test.YtjenhelmpcajfaaGreatDoorA05
import Derived.WalkSmall
import Derived.Lib.AtoiErrMem
set_option linter.all false
set_option maxHeartbeats 1000000
namespace Go.Proofs
section
open Go.Shelf
def Tryz.lays283_ren:Go.Shelf.Ren:=⟨fun|283=>219|n=>n,fun|3=>3|9=>9|4=>4|n=>n,fun|n=>n⟩
theorem Tryz.lays283:Go.Proofs.Lays.n283 Tryz.prog Tryz.lays283_ren:={
 mixed:=by kernel_rfl
 f283:=Tryz.func219.trans (congrArg some (by kernel_rfl))
 t3:=Tryz.underlying3
 a3:=Tryz.isAgg3
 z3:=Tryz.sizeOf3
 v3:=Tryz.zeroValue3
 t4:=Tryz.underlying4
 a4:=Tryz.isAgg4
 z4:=Tryz.sizeOf4
 v4:=Tryz.zeroValue4
 t9:=Tryz.underlying9
 a9:=Tryz.isAgg9
 z9:=Tryz.sizeOf9
 v9:=Tryz.zeroValue9}
def Tryz.laysM284_ren:Go.Shelf.Ren:=⟨fun|284=>220|129=>162|317=>223|318=>224|n=>n,fun|53=>262|3=>3|212=>398|0=>0|4=>4|46=>306|5=>5|9=>9|n=>n,fun|17=>9|n=>n⟩
theorem Tryz.laysM284:Go.Proofs.LaysM.n284 Tryz.prog Tryz.laysM284_ren:={
 mixed:=by kernel_rfl
 f129:=Tryz.func162.trans (congrArg some (by kernel_rfl))
 f284:=Tryz.func220.trans (congrArg some (by kernel_rfl))
 f317:=Tryz.func223.trans (congrArg some (by kernel_rfl))
 f318:=Tryz.func224.trans (congrArg some (by kernel_rfl))
 t0:=Tryz.underlying0
 a0:=Tryz.isAgg0
 z0:=Tryz.sizeOf0
 v0:=Tryz.zeroValue0
 t3:=Tryz.underlying3
 a3:=Tryz.isAgg3
 z3:=Tryz.sizeOf3
 v3:=Tryz.zeroValue3
 t4:=Tryz.underlying4
 a4:=Tryz.isAgg4
 z4:=Tryz.sizeOf4
 v4:=Tryz.zeroValue4
 t5:=Tryz.underlying5
 a5:=Tryz.isAgg5
 z5:=Tryz.sizeOf5
 v5:=Tryz.zeroValue5
 t9:=Tryz.underlying9
 a9:=Tryz.isAgg9
 z9:=Tryz.sizeOf9
 v9:=Tryz.zeroValue9
 t46:=Tryz.underlying306
 a46:=Tryz.isAgg306
 z46:=Tryz.sizeOf306
 v46:=Tryz.zeroValue306
 t53:=Tryz.underlying262
 a53:=Tryz.isAgg262
 z53:=Tryz.sizeOf262
 v53:=Tryz.zeroValue262
 t212:=Tryz.underlying398
 a212:=Tryz.isAgg398
 z212:=Tryz.sizeOf398
 v212:=Tryz.zeroValue398
 g17:=by kernel_rfl
 i0:=by kernel_rfl
 i3:=by kernel_rfl
 i4:=by kernel_rfl
 i5:=by kernel_rfl
 i9:=by kernel_rfl
 i46:=by kernel_rfl
 i53:=by kernel_rfl
 i212:=by kernel_rfl
 m17:=by kernel_rfl}
def Tryz.lays285_ren:Go.Shelf.Ren:=⟨fun|285=>221|n=>n,fun|37=>53|53=>262|3=>3|4=>4|51=>79|9=>9|5=>5|0=>0|n=>n,fun|n=>n⟩
theorem Tryz.lays285:Go.Proofs.Lays.n285 Tryz.prog Tryz.lays285_ren:={
 mixed:=by kernel_rfl
 f285:=Tryz.func221.trans (congrArg some (by kernel_rfl))
 t0:=Tryz.underlying0
 a0:=Tryz.isAgg0
 z0:=Tryz.sizeOf0
 v0:=Tryz.zeroValue0
 t3:=Tryz.underlying3
 a3:=Tryz.isAgg3
 z3:=Tryz.sizeOf3
 v3:=Tryz.zeroValue3
 t4:=Tryz.underlying4
 a4:=Tryz.isAgg4
 z4:=Tryz.sizeOf4
 v4:=Tryz.zeroValue4
 t5:=Tryz.underlying5
 a5:=Tryz.isAgg5
 z5:=Tryz.sizeOf5
 v5:=Tryz.zeroValue5
 t9:=Tryz.underlying9
 a9:=Tryz.isAgg9
 z9:=Tryz.sizeOf9
 v9:=Tryz.zeroValue9
 t37:=Tryz.underlying53
 a37:=Tryz.isAgg53
 z37:=Tryz.sizeOf53
 v37:=Tryz.zeroValue53
 t51:=Tryz.underlying79
 a51:=Tryz.isAgg79
 z51:=Tryz.sizeOf79
 v51:=Tryz.zeroValue79
 t53:=Tryz.underlying262
 a53:=Tryz.isAgg262
 z53:=Tryz.sizeOf262
 v53:=Tryz.zeroValue262}
def Tryz.laysM279_ren:Go.Shelf.Ren:=⟨fun|279=>202|316=>212|n=>n,fun|9=>9|168=>371|75=>192|210=>379|3=>3|4=>4|37=>53|0=>0|127=>390|80=>214|5=>5|n=>n,fun|15=>0|n=>n⟩
theorem Tryz.laysM279:Go.Proofs.LaysM.n279 Tryz.prog Tryz.laysM279_ren:={
 mixed:=by kernel_rfl
 f279:=Tryz.func202.trans (congrArg some (by kernel_rfl))
 f316:=Tryz.func212.trans (congrArg some (by kernel_rfl))
 t0:=Tryz.underlying0
 a0:=Tryz.isAgg0
 z0:=Tryz.sizeOf0
 v0:=Tryz.zeroValue0
 t3:=Tryz.underlying3
 a3:=Tryz.isAgg3
 z3:=Tryz.sizeOf3
 v3:=Tryz.zeroValue3
 t4:=Tryz.underlying4
 a4:=Tryz.isAgg4
 z4:=Tryz.sizeOf4
 v4:=Tryz.zeroValue4
 t9:=Tryz.underlying9
 a9:=Tryz.isAgg9
 z9:=Tryz.sizeOf9
 v9:=Tryz.zeroValue9
 t37:=Tryz.underlying53
 a37:=Tryz.isAgg53
 z37:=Tryz.sizeOf53
 v37:=Tryz.zeroValue53
 t75:=Tryz.underlying192
 a75:=Tryz.isAgg192
 z75:=Tryz.sizeOf192
 v75:=Tryz.zeroValue192
 t127:=Tryz.underlying390
 a127:=Tryz.isAgg390
 z127:=Tryz.sizeOf390
 v127:=Tryz.zeroValue390
 t168:=Tryz.underlying371
 a168:=Tryz.isAgg371
 z168:=Tryz.sizeOf371
 v168:=Tryz.zeroValue371
 t210:=Tryz.underlying379
 a210:=Tryz.isAgg379
 z210:=Tryz.sizeOf379
 v210:=Tryz.zeroValue379
 g15:=by kernel_rfl
 t5:=Tryz.underlying5
 a5:=Tryz.isAgg5
 z5:=Tryz.sizeOf5
 v5:=Tryz.zeroValue5
 t80:=Tryz.underlying214
 a80:=Tryz.isAgg214
 z80:=Tryz.sizeOf214
 v80:=Tryz.zeroValue214
 i0:=by kernel_rfl
 i3:=by kernel_rfl
 i4:=by kernel_rfl
 i5:=by kernel_rfl
 i9:=by kernel_rfl
 i37:=by kernel_rfl
 i75:=by kernel_rfl
 i80:=by kernel_rfl
 i127:=by kernel_rfl
 i168:=by kernel_rfl
 i210:=by kernel_rfl
 m15:=by kernel_rfl}
def Tryz.lays287_ren:Go.Shelf.Ren:=⟨fun|287=>191|321=>200|322=>201|n=>n,fun|9=>9|3=>3|53=>262|75=>192|4=>4|167=>369|5=>5|46=>306|37=>53|0=>0|21=>21|80=>214|n=>n,fun|n=>n⟩
theorem Tryz.lays287:Go.Proofs.Lays.n287 Tryz.prog Tryz.lays287_ren:={
 mixed:=by kernel_rfl
 f287:=Tryz.func191.trans (congrArg some (by kernel_rfl))
 f321:=Tryz.func200.trans (congrArg some (by kernel_rfl))
 f322:=Tryz.func201.trans (congrArg some (by kernel_rfl))
 t0:=Tryz.underlying0
 a0:=Tryz.isAgg0
 z0:=Tryz.sizeOf0
 v0:=Tryz.zeroValue0
 t3:=Tryz.underlying3
 a3:=Tryz.isAgg3
 z3:=Tryz.sizeOf3
 v3:=Tryz.zeroValue3
 t4:=Tryz.underlying4
 a4:=Tryz.isAgg4
 z4:=Tryz.sizeOf4
 v4:=Tryz.zeroValue4
 t5:=Tryz.underlying5
 a5:=Tryz.isAgg5
 z5:=Tryz.sizeOf5
 v5:=Tryz.zeroValue5
 t9:=Tryz.underlying9
 a9:=Tryz.isAgg9
 z9:=Tryz.sizeOf9
 v9:=Tryz.zeroValue9
 t21:=Tryz.underlying21
 a21:=Tryz.isAgg21
 z21:=Tryz.sizeOf21
 v21:=Tryz.zeroValue21
 t37:=Tryz.underlying53
 a37:=Tryz.isAgg53
 z37:=Tryz.sizeOf53
 v37:=Tryz.zeroValue53
 t46:=Tryz.underlying306
 a46:=Tryz.isAgg306
 z46:=Tryz.sizeOf306
 v46:=Tryz.zeroValue306
 t53:=Tryz.underlying262
 a53:=Tryz.isAgg262
 z53:=Tryz.sizeOf262
 v53:=Tryz.zeroValue262
 t75:=Tryz.underlying192
 a75:=Tryz.isAgg192
 z75:=Tryz.sizeOf192
 v75:=Tryz.zeroValue192
 t167:=Tryz.underlying369
 a167:=Tryz.isAgg369
 z167:=Tryz.sizeOf369
 v167:=Tryz.zeroValue369}
def Tryz.laysM280_ren:Go.Shelf.Ren:=⟨fun|280=>203|316=>212|n=>n,fun|9=>9|168=>371|75=>192|210=>379|3=>3|4=>4|37=>53|0=>0|127=>390|80=>214|5=>5|n=>n,fun|16=>1|n=>n⟩
theorem Tryz.laysM280:Go.Proofs.LaysM.n280 Tryz.prog Tryz.laysM280_ren:={
 mixed:=by kernel_rfl
 f280:=Tryz.func203.trans (congrArg some (by kernel_rfl))
 f316:=Tryz.func212.trans (congrArg some (by kernel_rfl))
 t0:=Tryz.underlying0
 a0:=Tryz.isAgg0
 z0:=Tryz.sizeOf0
 v0:=Tryz.zeroValue0
 t3:=Tryz.underlying3
 a3:=Tryz.isAgg3
 z3:=Tryz.sizeOf3
 v3:=Tryz.zeroValue3
 t4:=Tryz.underlying4
 a4:=Tryz.isAgg4
 z4:=Tryz.sizeOf4
 v4:=Tryz.zeroValue4
 t9:=Tryz.underlying9
 a9:=Tryz.isAgg9
 z9:=Tryz.sizeOf9
 v9:=Tryz.zeroValue9
 t37:=Tryz.underlying53
 a37:=Tryz.isAgg53
 z37:=Tryz.sizeOf53
 v37:=Tryz.zeroValue53
 t75:=Tryz.underlying192
 a75:=Tryz.isAgg192
 z75:=Tryz.sizeOf192
 v75:=Tryz.zeroValue192
 t127:=Tryz.underlying390
 a127:=Tryz.isAgg390
 z127:=Tryz.sizeOf390
 v127:=Tryz.zeroValue390
 t168:=Tryz.underlying371
 a168:=Tryz.isAgg371
 z168:=Tryz.sizeOf371
 v168:=Tryz.zeroValue371
 t210:=Tryz.underlying379
 a210:=Tryz.isAgg379
 z210:=Tryz.sizeOf379
 v210:=Tryz.zeroValue379
 g16:=by kernel_rfl
 t5:=Tryz.underlying5
 a5:=Tryz.isAgg5
 z5:=Tryz.sizeOf5
 v5:=Tryz.zeroValue5
 t80:=Tryz.underlying214
 a80:=Tryz.isAgg214
 z80:=Tryz.sizeOf214
 v80:=Tryz.zeroValue214
 i0:=by kernel_rfl
 i3:=by kernel_rfl
 i4:=by kernel_rfl
 i5:=by kernel_rfl
 i9:=by kernel_rfl
 i37:=by kernel_rfl
 i75:=by kernel_rfl
 i80:=by kernel_rfl
 i127:=by kernel_rfl
 i168:=by kernel_rfl
 i210:=by kernel_rfl
 m16:=by kernel_rfl}
open Go.Lib in
theorem Tryz.internal_strconv_small (i:Nat) (h:i<100) (w:World):
 Calls Tryz.prog 219 #[.int .i64 i] w fun e w'=>e= .returned (.string ⟨(Lib.decDigits i).toArray⟩)/\w'=w:=Any.internal_strconv_small Tryz.lays283 i h w
open Go.Lib in
theorem Tryz.internal_strconv_numDigits (u:Nat) (h1:1<=u) (h2:u<18446744073709551616) (w:World) (Ho:Lib.TabIs Tryz.prog w "internal/strconv.uint64pow10" .u64 Lib.pow10Tab):
 Calls Tryz.prog 220 #[.int .u64 u] w fun e w'=>e= .returned (.int .i64 (Lib.nDigits u))/\w'=w:=Any.internal_strconv_numDigits Tryz.laysM284 u h1 h2 w Ho
open Go.RowKit Go.Sort Go.Lib in
theorem Tryz.internal_strconv_formatBase10 (blk off cap:Nat) (u:Nat) (d:Array UInt8) (w:World) (hH:Holds (fun (b:UInt8)=>Value.int .u8 (b.toNat:Int)) w blk off d) (hu:u<10 ^ d.size) (hu64:u<18446744073709551616) (hsz:d.size<4611686018427387904):
 Calls Tryz.prog 221 #[.slice (some ⟨blk,off,none⟩) d.size cap, .int .u64 u] w fun e w'=>
  e= .returned (.tuple #[])/\∃(n v':Nat) (dk:Array UInt8),w'=(putRow (fun (b:UInt8)=>Value.int .u8 (b.toNat:Int)) w blk off dk).drewN n/\FmtInv d.size u 0 v' dk:=Any.internal_strconv_formatBase10 Tryz.lays285 blk off cap u d w hH hu hu64 hsz
open Go.RowKit in
theorem Tryz.strconv_syntaxError (fn s:ByteArray) (ev:Value) (w:World) (hlim:s.size<=281474976710656) (hv:w.cell? ⟨0,0,none⟩=some ev) (hev:ev= .nilIface\/∃te pe,ev= .iface te pe):
 Calls Tryz.prog 202 #[.string fn, .string s] w fun e w'=>∃N,e= .returned (.pointer (some ⟨N,0,none⟩))/\w.heap.size<=N/\w'.heap[N]?=some (.cells #[.string fn, .string s,ev] 379 (0,0))/\Below w.heap.size w w':=Any.strconv_syntaxError Tryz.laysM279 fn s ev w hlim hv hev
open Go.RowKit in
theorem Tryz.strconv_rangeError (fn s:ByteArray) (ev:Value) (w:World) (hlim:s.size<=281474976710656) (hv:w.cell? ⟨1,0,none⟩=some ev) (hev:ev= .nilIface\/∃te pe,ev= .iface te pe):
 Calls Tryz.prog 203 #[.string fn, .string s] w fun e w'=>∃N,e= .returned (.pointer (some ⟨N,0,none⟩))/\w.heap.size<=N/\w'.heap[N]?=some (.cells #[.string fn, .string s,ev] 379 (0,0))/\Below w.heap.size w w':=Any.strconv_rangeError Tryz.laysM280 fn s ev w hlim hv hev
open Go.RowKit in
theorem Tryz.internal_strconv_ParseUint_10_b64 (t:ByteArray) (hne:t.size≠0) (hmax:t.size<=9223372036854775806) (w:World):
 Calls Tryz.prog 191 #[.string t, .int .i64 10, .int .i64 64] w fun e w'=>e= .returned (Lib.uintTuple 369 (Lib.parseUint10 0 t.data.toList))/\w'=Lib.bytesWorld w 5 t:=Any.internal_strconv_ParseUint_10_b64 Tryz.lays287 t hne hmax w
end
end Go.Proofs
namespace Go.Proofs.YtjenhelmpcajfaaGreatDoor
open Go.Proofs.Tryz Go.RowKit
structure Gl (w:World):Prop where
 e0:∃ev,w.cell? ⟨0,0,none⟩=some ev/\(ev= .nilIface\/∃te pe,ev= .iface te pe)
 e1:∃ev,w.cell? ⟨1,0,none⟩=some ev/\(ev= .nilIface\/∃te pe,ev= .iface te pe)
 tab:Lib.TabIs Tryz.prog w "internal/strconv.uint64pow10" .u64 Lib.pow10Tab
theorem qU {w w1:World} {a:Addr} {v:Value} (h:w.cell? a=some v) (hb:Below w.heap.size w w1):w1.cell? a=some v:=(hb.cell (World.block_lt_of_cell? w a h)).trans h
theorem Gl.pure {w w':World} (h:Gl w) (hb:Below w.heap.size w w'):Gl w':=by
 obtain ⟨e0,h0,h0'⟩:=h.e0;obtain ⟨e1,h1,h1'⟩:=h.e1;refine ⟨⟨e0,qU h0 hb,h0'⟩,⟨e1,qU h1 hb,h1'⟩, ?_⟩;have ht:w.var? Tryz.prog "internal/strconv.uint64pow10"=_:=h.tab;have ht2:=ht;unfold World.var? at ht2;rw [Option.bind_eq_some_iff] at ht2;obtain ⟨g,hg,hm⟩:=ht2
 have hlt:g<w.heap.size:=by
  cases hq:w.heap[g]? with
  | none=>rw [hq] at hm;cases hm
  | some o=>exact (Array.getElem?_eq_some_iff.1 hq).1
 exact var?_below hb hg hlt ht
def wD (s:aa) (v:Value):Prop:=match numOf s with
 | some n=>v= .tuple #[.int .u64 n, .nilIface]
 | none=>∃(k:Int) (T:TypeId) (x:Value),v= .tuple #[.int .u64 k, .iface T x]
theorem f192 (fn s:aa) (k:Int) (w:World) (hs:s.size<=1000000) (hg:Gl w) (hk:k=1\/k=2):
 Calls Tryz.prog 192 #[.string fn, .string s, .int .i64 10, .int .i64 64, .iface 369 (.int .i64 k)] w fun e w'=>(∃n,e= .returned (.iface 371 (.pointer (some ⟨n,0,none⟩))))/\Below w.heap.size w w':=by
 obtain ⟨e0,h0,h0'⟩:=hg.e0;obtain ⟨e1,h1,h1'⟩:=hg.e1;have c0:=Tryz.strconv_syntaxError fn s e0 w (by omega) h0 h0';have c1:=Tryz.strconv_rangeError fn s e1 w (by omega) h1 h1';have HC:=Y2 c0 c1;clear c0 c1 h0 h0' h1 h1' hg;rcases hk with rfl|rfl
 · have q1:∀w,(binOp .eql 192 (.iface 369 (.int .i64 1)) (.iface 369 (.int .i64 2))).run Tryz.prog w= .ok (.bool false) w:=fun _=>by kernel_rfl
   have q2:∀w,(binOp .eql 192 (.iface 369 (.int .i64 1)) (.iface 369 (.int .i64 1))).run Tryz.prog w= .ok (.bool true) w:=fun _=>by kernel_rfl
   go_enter func192,ntmps192;go_wp2_with (go_at_call 203;(with_reducible refine HC.out.2.mono ?_);rintro e w1 ⟨N,rfl,-,-,hB⟩);go_ret;exact ⟨⟨N,rfl⟩,hB⟩
 have q1:∀w,(binOp .eql 192 (.iface 369 (.int .i64 2)) (.iface 369 (.int .i64 2))).run Tryz.prog w= .ok (.bool true) w:=fun _=>by kernel_rfl
 go_enter func192,ntmps192;go_wp2_with (go_at_call 202;(with_reducible refine HC.out.1.mono ?_);rintro e w1 ⟨N,rfl,-,-,hB⟩);go_ret;exact ⟨⟨N,rfl⟩,hB⟩
theorem f178 (s:aa) (w:World) (h0:s.size≠0) (hs:s.size<=1000000) (hg:Gl w):
 Calls Tryz.prog 178 #[.string s, .int .i64 10, .int .i64 64] w fun e w'=>∃v,e= .returned v/\wD s v/\Below w.heap.size w w':=by
 have c0:=Tryz.internal_strconv_ParseUint_10_b64 s h0 (by omega) w;have hb:=Lib.bytesWorld_below w 5 s;have iM:numOf s=match Lib.parseUint10 0 s.data.toList with| .ok u=>some u|_=>none:=rfl
 have Pp:=fun k hk=>f192 ⟨#[80,97,114,115,101,85,105,110,116]⟩ s k (Lib.bytesWorld w 5 s) hs (hg.pure hb) hk
 have HN:=Y0 iM;have HB:=Y0 hb;have H1:=Y0 Pp;clear iM hb Pp hg;generalize Lib.bytesWorld w 5 s=Wb at*
 cases hp:Lib.parseUint10 0 s.data.toList with
 | ok u=>
   rw [hp] at c0;have hx:Hid (numOf s=some u):=Y0 (by rw [HN.out,hp]);have HC:=Y0 c0;clear c0 hp HN;go_enter func178,ntmps178;go_wp2_with (go_at_call 191;(with_reducible refine HC.out.mono ?_);rintro e w1 ⟨rfl,rfl⟩;simp only [Lib.uintTuple]);go_ret2
   exact ⟨_,rfl,by unfold wD;rw [hx.out];rfl,HB.out⟩
 | range=>
   rw [hp] at c0;have hx:Hid (numOf s=none):=Y0 (by rw [HN.out,hp]);have HC:=Y0 c0;clear c0 hp HN;go_enter func178,ntmps178
   go_wp2_with (first
    | (go_at_call 191;(with_reducible refine HC.out.mono ?_);rintro e w1 ⟨rfl,rfl⟩;simp only [Lib.uintTuple])
    | (go_at_call 192;refine (H1.out 1 (.inl rfl)).mono ?_;rintro e w2 ⟨⟨n,rfl⟩,cZ⟩;have iN:=Y0 cZ;clear cZ))
   go_ret2;exact ⟨_,rfl,by unfold wD;rw [hx.out];exact ⟨_,_,_,rfl⟩,HB.out.trans (iN.out.mono HB.out.size)⟩
 | _=>
   rw [hp] at c0;have hx:Hid (numOf s=none):=Y0 (by rw [HN.out,hp]);have HC:=Y0 c0;clear c0 hp HN;go_enter func178,ntmps178
   go_wp2_with (first
    | (go_at_call 191;(with_reducible refine HC.out.mono ?_);rintro e w1 ⟨rfl,rfl⟩;simp only [Lib.uintTuple])
    | (go_at_call 192;refine (H1.out 2 (.inr rfl)).mono ?_;rintro e w2 ⟨⟨n,rfl⟩,cZ⟩;have iN:=Y0 cZ;clear cZ))
   go_ret2;exact ⟨_,rfl,by unfold wD;rw [hx.out];exact ⟨_,_,_,rfl⟩,HB.out.trans (iN.out.mono HB.out.size)⟩
end Go.Proofs.YtjenhelmpcajfaaGreatDoor
